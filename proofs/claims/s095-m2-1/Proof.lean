import JvmDerived
import JvmDerived.Pilot.@@N@@Statement
import JvmDerived.Pilot.@@N@@Code
set_option linter.unusedVariables false
set_option linter.unusedSimpArgs false
namespace Jvm.Pilot.@@N@@
open Jvm Jvm.ClassFile Sem Op Lib Jvm.Free Jvm.Stand Jvm.LawKit Jvm.RoadKit Bundle Jvm.Pilot.@@N@@.Jvm.D
/-! from the state S the run comes to an end that QQ allows -/
def Goes (p : Program) (e : Env) (below : List Frame) (QQ : Outcome → State → Prop) (S : State) : Prop :=
  ∃ s₂ o, Steps p.tables e below S s₂ ∧ s₂.status = .running ∧ Ended s₂ below o ∧ QQ o s₂
theorem Goes.on {p : Program} {e : Env} {below : List Frame} {QQ : Outcome → State → Prop} {S S' : State} (h : ∀ t, Steps p.tables e below S' t → Steps p.tables e below S t) (g : Goes p e below QQ S') : Goes p e below QQ S := by
  obtain ⟨s₂, o, h1, h2⟩ := g
  exact ⟨s₂, o, h _ h1, h2⟩
theorem Goes.cast {p : Program} {e : Env} {below : List Frame} {QQ : Outcome → State → Prop} {T : State} {g g' : JFrame} (q : g = g') (k : Goes p e below QQ (T.setTop g')) : Goes p e below QQ (T.setTop g) := q ▸ k
def EndsQ (s : State) (Q : Option Value → Heap → List Loc → Prop) (kc ks : Nat) (o : Outcome) (U' : State) : Prop := ∃ v L, o = .returned v ∧ Q v U'.heap L ∧ FrameEnd s o U' L kc ks
/-- a result alone -/
def QP (x : Value) (h0 : Heap) (n0 : Nat) (v : Option Value) (h : Heap) (L : List Loc) : Prop := v = some x ∧ Fr n0 L ∧ h = h0
theorem own_enter {l : Launch} {y : MethodName} {bytes : ByteArray} {maxL : Nat} {rt : Option FieldType} {ws : List Jvm.Cond} {rm : Room} {as' : Array Value} {Q : Option Value → Heap → List Loc → Prop} {Z : State} {h0 : Heap} {kc ks : Nat} (hp : plainFor y = true)
    (body : ∀ (p : Program) (e : Env) (s : State) (m : MethodId) (below : List Frame) (meth : Method) (c : Code) (s₁ : State) (QQ : Outcome → State → Prop), (∀ o U', EndsQ s Q kc ks o U' → QQ o U') → p.tables.exec = Jvm.exec → c.code = bytes → c.maxLocals = maxL → s.vm.findClass y.cls = some m.cls → meth.name = y.name → meth.sig.returnType = rt → meth.locks = false → Z.Warmed39 s.vm → Stand p l e rm s m as' below meth c s₁ [] 0 0 → s₁.heap = h0 →
      Goes p e below QQ (s₁.setTop (entryFrame m as' maxL))) :
    MetFree l y (head1 (Jvm.Cond.code y bytes maxL rt :: ws) rm) (fun a U => a = as' ∧ Z.Warmed39 U.vm ∧ U.heap = h0) (fun _ _ _ _ _ => True) (fun _ U o U' => ∃ v L, o = .returned v ∧ Q v U'.heap L ∧ FrameEnd U o U' L kc ks) := by
  refine MetFree.of_bodySF hp hisR ?_
  intro p e s m args below meth c s₁ Bd hml0 hP hK
  obtain ⟨rfl, hZ, hh⟩ := hP
  exact body p e s m below meth c s₁ _ (fun o U' h => h) Bd.exec Bd.bytes hml0 (findClass_of_methodNamed Bd.named) (name_of_methodNamed Bd.named Bd.method).1 Bd.returns (BodyLoose.notSynchronized Bd) hZ (Stand.of_body Bd) (by rw [← hh, Bd.state]; rfl)
section Ret
variable {p : Program} {l : Launch} {e : Env} {R : Room} {s : State} {m : MethodId} {args : Array Value} {below : List Frame} {meth : Method} {c : Code} {T : State} {locs : List Loc} {cells slots kc ks : Nat} {QQ : Outcome → State → Prop} {Q : Option Value → Heap → List Loc → Prop}
theorem Goes.fin (X : Stand p l e R s m args below meth c T locs cells slots) (hlk : meth.locks = false) {v : Option Value} (hv : meth.sig.returnType = none → v = none) {g : JFrame}
    (step : ∀ fs : List Frame, (∀ (f : JFrame) (acts : List Action), f.method = m → f.locked = none → f.entered = [] → (doReturn e (T.setTop f) acts v).1 = T.setFrames fs) → Steps p.tables e below (T.setTop g) (T.setFrames fs))
    (hQQ : ∀ o U', EndsQ s Q kc ks o U' → QQ o U') (hq : Q v T.heap locs) (hc : cells ≤ kc) (hs : slots ≤ ks) : Goes p e below QQ (T.setTop g) := by
  obtain ⟨fs, hr, hrun, hended, hW, hsame⟩ := X.leave (v := v) hv hlk
  exact ⟨_, _, step fs hr, hrun, hended, hQQ _ _ ⟨v, locs, rfl, hq, ⟨v, rfl⟩, hW, hsame.mono hc hs⟩⟩
theorem Goes.rI (X : Stand p l e R s m args below meth c T locs cells slots) (hx : p.tables.exec = Jvm.exec) (hret : meth.sig.returnType = some .int) (hlk : meth.locks = false) {pc : Nat} {Ls : Array Slot} {z : Int32} {rest : List Value} (hd : decode c.code pc = .ok (.ireturn, 1))
    (hQQ : ∀ o U', EndsQ s Q kc ks o U' → QQ o U') (hq : Q (some (.int z)) T.heap locs) (hc : cells ≤ kc) (hs : slots ≤ ks) : Goes p e below QQ (T.setTop (mkF m pc Ls (.int z :: rest))) :=
  Goes.fin X hlk (v := some (.int z)) (fun h => by rw [hret] at h; cases h) (fun fs hr => retOut X hx hret rfl (Or.inl ⟨rfl, Or.inl rfl, z, rfl⟩) hd hr) hQQ hq hc hs
theorem Goes.rN (X : Stand p l e R s m args below meth c T locs cells slots) (hx : p.tables.exec = Jvm.exec) {t : FieldType} (hret : meth.sig.returnType = some t) (ht : t = .boolean ∨ t = .byte ∨ t = .char ∨ t = .short) (hlk : meth.locks = false) {pc : Nat} {Ls : Array Slot} {z : Int32} {rest : List Value} (hd : decode c.code pc = .ok (.ireturn, 1))
    (hQQ : ∀ o U', EndsQ s Q kc ks o U' → QQ o U') (hq : Q (some (.int (nar t z))) T.heap locs) (hc : cells ≤ kc) (hs : slots ≤ ks) : Goes p e below QQ (T.setTop (mkF m pc Ls (.int z :: rest))) :=
  Goes.fin X hlk (v := some (.int (nar t z))) (fun h => by rw [hret] at h; cases h) (fun fs hr => retN X hx hret ht hd hr) hQQ hq hc hs
theorem Goes.rJ (X : Stand p l e R s m args below meth c T locs cells slots) (hx : p.tables.exec = Jvm.exec) (hret : meth.sig.returnType = some .long) (hlk : meth.locks = false) {pc : Nat} {Ls : Array Slot} {z : Int64} {rest : List Value} (hd : decode c.code pc = .ok (.lreturn, 1))
    (hQQ : ∀ o U', EndsQ s Q kc ks o U' → QQ o U') (hq : Q (some (.long z)) T.heap locs) (hc : cells ≤ kc) (hs : slots ≤ ks) : Goes p e below QQ (T.setTop (mkF m pc Ls (.long z :: rest))) :=
  Goes.fin X hlk (v := some (.long z)) (fun h => by rw [hret] at h; cases h) (fun fs hr => retOut X hx hret rfl (Or.inr (Or.inl ⟨rfl, rfl, z, rfl⟩)) hd hr) hQQ hq hc hs
theorem Goes.rA (X : Stand p l e R s m args below meth c T locs cells slots) (hx : p.tables.exec = Jvm.exec) {t : FieldType} (hret : meth.sig.returnType = some t) (ht : t.isReference = true) {w : Value} (hw : w.isRef = true) (hlk : meth.locks = false) {pc : Nat} {Ls : Array Slot} {rest : List Value} (hd : decode c.code pc = .ok (.areturn, 1))
    (hQQ : ∀ o U', EndsQ s Q kc ks o U' → QQ o U') (hq : Q (some w) T.heap locs) (hc : cells ≤ kc) (hs : slots ≤ ks) : Goes p e below QQ (T.setTop (mkF m pc Ls (w :: rest))) :=
  Goes.fin X hlk (v := some w) (fun h => by rw [hret] at h; cases h) (fun fs hr => retOut X hx hret (by cases w <;> first | (cases hw; done) | (cases t <;> first | (cases ht; done) | rfl)) (Or.inr (Or.inr (Or.inr (Or.inr ⟨rfl, ht, hw⟩)))) hd hr) hQQ hq hc hs
theorem Goes.rV (X : Stand p l e R s m args below meth c T locs cells slots) (hx : p.tables.exec = Jvm.exec) (hret : meth.sig.returnType = none) (hlk : meth.locks = false) {pc : Nat} {Ls : Array Slot} (hd : decode c.code pc = .ok (.return_, 1))
    (hQQ : ∀ o U', EndsQ s Q kc ks o U' → QQ o U') (hq : Q none T.heap locs) (hc : cells ≤ kc) (hs : slots ≤ ks) : Goes p e below QQ (T.setTop (mkF m pc Ls [])) :=
  Goes.fin X hlk (v := none) (fun _ => rfl) (fun fs hr => X.returnOut hx hret hd hr) hQQ hq hc hs
end Ret
/-- what the law leaves: it returned 1, and nothing old was written -/
def QL (n0 : Nat) (v : Option Value) (h : Heap) (L : List Loc) : Prop := v = some (.int 1) ∧ Fr n0 L
/-- nothing returned, the heap as it was -/
def QV (h0 : Heap) (n0 : Nat) (v : Option Value) (h : Heap) (L : List Loc) : Prop := v = none ∧ Fr n0 L ∧ h = h0
theorem own_anyK {Z : State} {h h' : Heap} {a : Addr} {O n d : String} {v : Value} {ws : List Addr} (F : Fld Z h a O n d v) (K : Keep h h' ws) : ∃ v', Fld Z h' a O n d v' := by
  obtain ⟨cell, cf, k, i, f, h1, h2, h3, h4, h5, h6, h7⟩ := F
  obtain ⟨c', e1, e2, e3, e4⟩ := K.2.2 a cell h1
  have hlt : f.slot < c'.slots.size := by rw [e4]; exact (Array.getElem?_eq_some_iff.mp h7).1
  exact ⟨_, c', cf, k, i, f, e1, h2, h3, by rw [e3]; exact h4, by rw [e3]; exact h5, by rw [e2]; exact h6, Array.getElem?_eq_getElem hlt⟩
def QN (a1 : Addr) (h0 : Heap) (n0 : Nat) (v : Option Value) (h : Heap) (L : List Loc) : Prop := v = none ∧ Fr n0 L ∧ Keep h0 h [a1]
def QI (Z : State) (a1 a3 : Addr) (p3 : Int32) (h0 : Heap) (n0 : Nat) (v : Option Value) (h : Heap) (L : List Loc) : Prop := v = none ∧ Fr n0 L ∧ Keep h0 h [a1] ∧ Fld Z h a1 "com/example/lendgate/lendgate/circulation/Decoder" "bytes" "[B" (.ref a3) ∧ Fld Z h a1 "com/example/lendgate/lendgate/circulation/Decoder" "position" "I" (.int p3)
theorem own_b2 (y : Int32) : nar .byte y.toInt8.toInt32 = y.toInt8.toInt32 := by
  show y.toInt8.toInt32.toInt8.toInt32 = y.toInt8.toInt32
  have q1 := c_i2b y
  have q2 := c_i2b y.toInt8.toInt32
  apply Int32.toInt_inj.mp
  omega
theorem d1_0 : decode method_3_code 0 = .ok (.lload_n 0, 1) := by decide +kernel
theorem d1_1 : decode method_3_code 1 = .ok (.iload_n 2, 1) := by decide +kernel
theorem d1_2 : decode method_3_code 2 = .ok (.iconst 5, 1) := by decide +kernel
theorem d1_3 : decode method_3_code 3 = .ok (.imul, 1) := by decide +kernel
theorem d1_4 : decode method_3_code 4 = .ok (.bipush 63, 2) := by decide +kernel
theorem d1_6 : decode method_3_code 6 = .ok (.iand, 1) := by decide +kernel
theorem d1_7 : decode method_3_code 7 = .ok (.lushr, 1) := by decide +kernel
theorem d1_8 : decode method_3_code 8 = .ok (.l2i, 1) := by decide +kernel
theorem d1_9 : decode method_3_code 9 = .ok (.i2b, 1) := by decide +kernel
theorem d1_10 : decode method_3_code 10 = .ok (.ireturn, 1) := by decide +kernel
theorem pn_1 : plainFor (⟨"com/example/lendgate/lendgate/circulation/DecoderCountPinLaw", "jb", "(JI)B"⟩ : MethodName) = true := plainFor_of_name (show plainName "com/example/lendgate/lendgate/circulation/DecoderCountPinLaw" = true by first | (simp [plainName, overriddenIn]; done) | decide +kernel)
theorem ef_rmJb (m : MethodId) (x0 : Int64) (x1 : Int32) : entryFrame m #[(.long x0), (.int x1)] 3 = mkF m 0 #[.val (.long x0), .second, iv x1] [] := by first | (simp [entryFrame, mkF, argsToLocals, Value.category]; done) | rfl
def jbF (p1 : Int64) (p2 : Int32) : Int32 := ((p1.toUInt64 >>> (((p2 * (5 : Int32)) &&& (63 : Int32)) &&& 0x3f).toInt64.toUInt64).toInt64).toInt32.toInt8.toInt32
set_option maxRecDepth 65536 in
set_option maxHeartbeats 40000000 in
theorem rmJb (l : Launch) (Z : State) (a0 : Array Value) (hw : ∀ d ∈ tables_1, d.before a0 Z = true) (ws : List Jvm.Cond) (p1 : Int64) (p2 : Int32)  (h0 : Heap) (n0 : Nat) (Z0 : n0 ≤ h0.size)  :
    MetFree l (⟨"com/example/lendgate/lendgate/circulation/DecoderCountPinLaw", "jb", "(JI)B"⟩ : MethodName) (head1 (Jvm.Cond.code (⟨"com/example/lendgate/lendgate/circulation/DecoderCountPinLaw", "jb", "(JI)B"⟩ : MethodName) method_3_code 3 (some .byte) :: ws) ({ frames := 0, cells := 0, slots := 0, locals := 0 } : Room)) (fun a U => a = #[(.long p1), (.int p2)] ∧ Z.Warmed39 U.vm ∧ U.heap = h0) (fun _ _ _ _ _ => True) (fun _ U o U' => ∃ v L, o = .returned v ∧ QP (.int (jbF p1 p2)) h0 n0 v U'.heap L ∧ FrameEnd U o U' L ({ frames := 0, cells := 0, slots := 0, locals := 0 } : Room).cells ({ frames := 0, cells := 0, slots := 0, locals := 0 } : Room).slots) := by
  refine own_enter pn_1 ?_
  intro p e s m below meth c s₁ QQ hQQ hx hby hml hown hnm hret hlk hZ X0 e0
  have hown : s.vm.findClass "com/example/lendgate/lendgate/circulation/DecoderCountPinLaw" = some m.cls := hown
  have hml : c.maxLocals = 3 := hml
  have hret : meth.sig.returnType = some .byte := hret
  have N0 := Fr.nil n0
  have K0 := Keep.refl h0 []
  refine Goes.cast (ef_rmJb m p1 p2) ?_
  show Goes p e below QQ (s₁.setTop (mkF m 0 #[.val (.long p1), .second, iv p2] []))
  refine Goes.on (fun t k => XS.lloadN X0.here hx rfl (hb hby d1_0) rfl k) ?_
  show Goes p e below QQ (s₁.setTop (mkF m 1 #[.val (.long p1), .second, iv p2] [(.long p1)]))
  refine Goes.on (fun t k => XS.iloadN X0.here hx rfl (hb hby d1_1) rfl k) ?_
  show Goes p e below QQ (s₁.setTop (mkF m 2 #[.val (.long p1), .second, iv p2] [(.int p2), (.long p1)]))
  refine Goes.on (fun t k => XS.iconst X0.here hx rfl (hb hby d1_2) k) ?_
  show Goes p e below QQ (s₁.setTop (mkF m 3 #[.val (.long p1), .second, iv p2] [(.int 5), (.int p2), (.long p1)]))
  refine Goes.on (fun t k => XS.imul X0.here hx rfl (hb hby d1_3) rfl k) ?_
  show Goes p e below QQ (s₁.setTop (mkF m 4 #[.val (.long p1), .second, iv p2] [(.int (p2 * (5 : Int32))), (.long p1)]))
  refine Goes.on (fun t k => XS.bipush X0.here hx rfl (hb hby d1_4) k) ?_
  show Goes p e below QQ (s₁.setTop (mkF m 6 #[.val (.long p1), .second, iv p2] [(.int 63), (.int (p2 * (5 : Int32))), (.long p1)]))
  refine Goes.on (fun t k => XS.iand X0.here hx rfl (hb hby d1_6) rfl k) ?_
  show Goes p e below QQ (s₁.setTop (mkF m 7 #[.val (.long p1), .second, iv p2] [(.int ((p2 * (5 : Int32)) &&& (63 : Int32))), (.long p1)]))
  refine Goes.on (fun t k => XS.lushr X0.here hx rfl (hb hby d1_7) rfl k) ?_
  show Goes p e below QQ (s₁.setTop (mkF m 8 #[.val (.long p1), .second, iv p2] [(.long ((p1.toUInt64 >>> (((p2 * (5 : Int32)) &&& (63 : Int32)) &&& 0x3f).toInt64.toUInt64).toInt64))]))
  refine Goes.on (fun t k => XS.l2i X0.here hx rfl (hb hby d1_8) rfl k) ?_
  show Goes p e below QQ (s₁.setTop (mkF m 9 #[.val (.long p1), .second, iv p2] [(.int ((p1.toUInt64 >>> (((p2 * (5 : Int32)) &&& (63 : Int32)) &&& 0x3f).toInt64.toUInt64).toInt64).toInt32)]))
  refine Goes.on (fun t k => XS.i2b X0.here hx rfl (hb hby d1_9) rfl k) ?_
  show Goes p e below QQ (s₁.setTop (mkF m 10 #[.val (.long p1), .second, iv p2] [(.int ((p1.toUInt64 >>> (((p2 * (5 : Int32)) &&& (63 : Int32)) &&& 0x3f).toInt64.toUInt64).toInt64).toInt32.toInt8.toInt32)]))
  have hv : nar .byte ((p1.toUInt64 >>> (((p2 * (5 : Int32)) &&& (63 : Int32)) &&& 0x3f).toInt64.toUInt64).toInt64).toInt32.toInt8.toInt32 = ((p1.toUInt64 >>> (((p2 * (5 : Int32)) &&& (63 : Int32)) &&& 0x3f).toInt64.toUInt64).toInt64).toInt32.toInt8.toInt32 := own_b2 _
  exact Goes.rN X0 hx (t := .byte) hret (by simp) hlk (hb hby d1_10) hQQ ⟨congrArg (fun z => some (Value.int z)) (hv.trans (rfl : (jbF p1 p2) = ((p1.toUInt64 >>> (((p2 * (5 : Int32)) &&& (63 : Int32)) &&& 0x3f).toInt64.toUInt64).toInt64).toInt32.toInt8.toInt32).symm), N0, e0⟩ (by decide) (by decide)
def gF (p3 p4 : Int32) (p5 : Int64) : Int32 := (if p3 < (p4 - (1 : Int32)) then (((((p5.toUInt64 >>> (((7 : Int32) * p3) &&& 0x3f).toInt64.toUInt64).toInt64) &&& (127 : Int64)).toInt32 ||| (128 : Int32))) else (((p5.toUInt64 >>> (((7 : Int32) * p3) &&& 0x3f).toInt64.toUInt64).toInt64) &&& (127 : Int64)).toInt32)
def putL (p2 p3 p4 : Int32) (p5 : Int64) (vs : List Value) : List Value := if p3 < p4 then vs.set (p2 + p3).toNatClampNeg (.int (gF p3 p4 p5).toInt8.toInt32.toInt8.toInt32) else vs
def QPut (Z : State) (a1 : Addr) (kk : ClassId) (zz : Int32) (ls : List Value) (h0 : Heap) (n0 : Nat) (v : Option Value) (h : Heap) (L : List Loc) : Prop := v = none ∧ Fr n0 L ∧ Keep h0 h [a1] ∧ Arv Z h a1 kk .byte zz ls (.int (0 : Int32))
theorem d2_0 : decode method_4_code 0 = .ok (.iload_n 2, 1) := by decide +kernel
theorem d2_1 : decode method_4_code 1 = .ok (.iload_n 3, 1) := by decide +kernel
theorem d2_2 : decode method_4_code 2 = .ok (.if_icmp .ge 40, 3) := by decide +kernel
theorem d2_5 : decode method_4_code 5 = .ok (.lload 4, 2) := by decide +kernel
theorem d2_7 : decode method_4_code 7 = .ok (.bipush 7, 2) := by decide +kernel
theorem d2_9 : decode method_4_code 9 = .ok (.iload_n 2, 1) := by decide +kernel
theorem d2_10 : decode method_4_code 10 = .ok (.imul, 1) := by decide +kernel
theorem d2_11 : decode method_4_code 11 = .ok (.lushr, 1) := by decide +kernel
theorem d2_12 : decode method_4_code 12 = .ok (.ldc2_w 34, 3) := by decide +kernel
theorem d2_15 : decode method_4_code 15 = .ok (.land, 1) := by decide +kernel
theorem d2_16 : decode method_4_code 16 = .ok (.l2i, 1) := by decide +kernel
theorem d2_17 : decode method_4_code 17 = .ok (.istore 6, 2) := by decide +kernel
theorem d2_19 : decode method_4_code 19 = .ok (.iload_n 2, 1) := by decide +kernel
theorem d2_20 : decode method_4_code 20 = .ok (.iload_n 3, 1) := by decide +kernel
theorem d2_21 : decode method_4_code 21 = .ok (.iconst 1, 1) := by decide +kernel
theorem d2_22 : decode method_4_code 22 = .ok (.isub, 1) := by decide +kernel
theorem d2_23 : decode method_4_code 23 = .ok (.if_icmp .ge 11, 3) := by decide +kernel
theorem d2_26 : decode method_4_code 26 = .ok (.iload 6, 2) := by decide +kernel
theorem d2_28 : decode method_4_code 28 = .ok (.sipush 128, 3) := by decide +kernel
theorem d2_31 : decode method_4_code 31 = .ok (.ior, 1) := by decide +kernel
theorem d2_32 : decode method_4_code 32 = .ok (.istore 6, 2) := by decide +kernel
theorem d2_34 : decode method_4_code 34 = .ok (.aload_n 0, 1) := by decide +kernel
theorem d2_35 : decode method_4_code 35 = .ok (.iload_n 1, 1) := by decide +kernel
theorem d2_36 : decode method_4_code 36 = .ok (.iload_n 2, 1) := by decide +kernel
theorem d2_37 : decode method_4_code 37 = .ok (.iadd, 1) := by decide +kernel
theorem d2_38 : decode method_4_code 38 = .ok (.iload 6, 2) := by decide +kernel
theorem d2_40 : decode method_4_code 40 = .ok (.i2b, 1) := by decide +kernel
theorem d2_41 : decode method_4_code 41 = .ok (.bastore, 1) := by decide +kernel
theorem d2_42 : decode method_4_code 42 = .ok (.return_, 1) := by decide +kernel
theorem pn_2 : plainFor (⟨"com/example/lendgate/lendgate/circulation/DecoderCountPinLaw", "put", "([BIIIJ)V"⟩ : MethodName) = true := plainFor_of_name (show plainName "com/example/lendgate/lendgate/circulation/DecoderCountPinLaw" = true by first | (simp [plainName, overriddenIn]; done) | decide +kernel)
theorem ef_rmPu (m : MethodId) (x0 : Addr) (x1 : Int32) (x2 : Int32) (x3 : Int32) (x4 : Int64) : entryFrame m #[(.ref x0), (.int x1), (.int x2), (.int x3), (.long x4)] 7 = mkF m 0 #[rv x0, iv x1, iv x2, iv x3, .val (.long x4), .second, .unset] [] := by first | (simp [entryFrame, mkF, argsToLocals, Value.category]; done) | rfl
set_option maxRecDepth 65536 in
set_option maxHeartbeats 40000000 in
theorem rmPu (l : Launch) (Z : State) (a0 : Array Value) (hw : ∀ d ∈ tables_1, d.before a0 Z = true) (ws : List Jvm.Cond) (a1 : Addr) (p2 p3 p4 : Int32) (p5 : Int64) (kk : ClassId) (zz : Int32) (vs : List Value) (h0 : Heap) (n0 : Nat) (Z0 : n0 ≤ h0.size) (V_a1 : Arv Z h0 a1 kk .byte zz vs (.int 0)) (g_a1 : n0 ≤ a1) (I0 : ¬ (p2 + p3) < 0 ∧ (p2 + p3) < zz) (L0 : (p2 + p3).toNatClampNeg < vs.length) :
    MetFree l (⟨"com/example/lendgate/lendgate/circulation/DecoderCountPinLaw", "put", "([BIIIJ)V"⟩ : MethodName) (head1 (Jvm.Cond.code (⟨"com/example/lendgate/lendgate/circulation/DecoderCountPinLaw", "put", "([BIIIJ)V"⟩ : MethodName) method_4_code 7 none :: ws) ({ frames := 0, cells := 0, slots := 0, locals := 0 } : Room)) (fun a U => a = #[(.ref a1), (.int p2), (.int p3), (.int p4), (.long p5)] ∧ Z.Warmed39 U.vm ∧ U.heap = h0) (fun _ _ _ _ _ => True) (fun _ U o U' => ∃ v L, o = .returned v ∧ QPut Z a1 kk zz (putL p2 p3 p4 p5 vs) h0 n0 v U'.heap L ∧ FrameEnd U o U' L ({ frames := 0, cells := 0, slots := 0, locals := 0 } : Room).cells ({ frames := 0, cells := 0, slots := 0, locals := 0 } : Room).slots) := by
  refine own_enter pn_2 ?_
  intro p e s m below meth c s₁ QQ hQQ hx hby hml hown hnm hret hlk hZ X0 e0
  have hown : s.vm.findClass "com/example/lendgate/lendgate/circulation/DecoderCountPinLaw" = some m.cls := hown
  have hml : c.maxLocals = 7 := hml
  have hret : meth.sig.returnType = none := hret
  have N0 := Fr.nil n0
  have K0 := Keep.refl h0 [a1]
  refine Goes.cast (ef_rmPu m a1 p2 p3 p4 p5) ?_
  show Goes p e below QQ (s₁.setTop (mkF m 0 #[rv a1, iv p2, iv p3, iv p4, .val (.long p5), .second, .unset] []))
  refine Goes.on (fun t k => XS.iloadN X0.here hx rfl (hb hby d2_0) rfl k) ?_
  show Goes p e below QQ (s₁.setTop (mkF m 1 #[rv a1, iv p2, iv p3, iv p4, .val (.long p5), .second, .unset] [(.int p3)]))
  refine Goes.on (fun t k => XS.iloadN X0.here hx rfl (hb hby d2_1) rfl k) ?_
  show Goes p e below QQ (s₁.setTop (mkF m 2 #[rv a1, iv p2, iv p3, iv p4, .val (.long p5), .second, .unset] [(.int p4), (.int p3)]))
  by_cases hb1 : p3 < p4
  · refine Goes.on (fun t k => XS.icmpNo X0.here hx rfl (hb hby d2_2) rfl (tlt hb1).2.1 k) ?_
    show Goes p e below QQ (s₁.setTop (mkF m 5 #[rv a1, iv p2, iv p3, iv p4, .val (.long p5), .second, .unset] []))
    refine Goes.on (fun t k => XS.lload X0.here hx rfl (hb hby d2_5) rfl k) ?_
    show Goes p e below QQ (s₁.setTop (mkF m 7 #[rv a1, iv p2, iv p3, iv p4, .val (.long p5), .second, .unset] [(.long p5)]))
    refine Goes.on (fun t k => XS.bipush X0.here hx rfl (hb hby d2_7) k) ?_
    show Goes p e below QQ (s₁.setTop (mkF m 9 #[rv a1, iv p2, iv p3, iv p4, .val (.long p5), .second, .unset] [(.int 7), (.long p5)]))
    refine Goes.on (fun t k => XS.iloadN X0.here hx rfl (hb hby d2_9) rfl k) ?_
    show Goes p e below QQ (s₁.setTop (mkF m 10 #[rv a1, iv p2, iv p3, iv p4, .val (.long p5), .second, .unset] [(.int p3), (.int 7), (.long p5)]))
    refine Goes.on (fun t k => XS.imul X0.here hx rfl (hb hby d2_10) rfl k) ?_
    show Goes p e below QQ (s₁.setTop (mkF m 11 #[rv a1, iv p2, iv p3, iv p4, .val (.long p5), .second, .unset] [(.int ((7 : Int32) * p3)), (.long p5)]))
    refine Goes.on (fun t k => XS.lushr X0.here hx rfl (hb hby d2_11) rfl k) ?_
    show Goes p e below QQ (s₁.setTop (mkF m 12 #[rv a1, iv p2, iv p3, iv p4, .val (.long p5), .second, .unset] [(.long ((p5.toUInt64 >>> (((7 : Int32) * p3) &&& 0x3f).toInt64.toUInt64).toInt64))]))
    refine Goes.on (fun t k => X0.ldc2Long hx hown (mvT hZ (hw _ (List.mem_of_getElem? (i := 9) rfl))) (g := (mkF m 12 #[rv a1, iv p2, iv p3, iv p4, .val (.long p5), .second, .unset] [(.long ((p5.toUInt64 >>> (((7 : Int32) * p3) &&& 0x3f).toInt64.toUInt64).toInt64))])) rfl (hb hby d2_12) t k) ?_
    show Goes p e below QQ (s₁.setTop (mkF m 15 #[rv a1, iv p2, iv p3, iv p4, .val (.long p5), .second, .unset] [(.long (127 : Int64)), (.long ((p5.toUInt64 >>> (((7 : Int32) * p3) &&& 0x3f).toInt64.toUInt64).toInt64))]))
    refine Goes.on (fun t k => XS.land X0.here hx rfl (hb hby d2_15) rfl k) ?_
    show Goes p e below QQ (s₁.setTop (mkF m 16 #[rv a1, iv p2, iv p3, iv p4, .val (.long p5), .second, .unset] [(.long (((p5.toUInt64 >>> (((7 : Int32) * p3) &&& 0x3f).toInt64.toUInt64).toInt64) &&& (127 : Int64)))]))
    refine Goes.on (fun t k => XS.l2i X0.here hx rfl (hb hby d2_16) rfl k) ?_
    show Goes p e below QQ (s₁.setTop (mkF m 17 #[rv a1, iv p2, iv p3, iv p4, .val (.long p5), .second, .unset] [(.int (((p5.toUInt64 >>> (((7 : Int32) * p3) &&& 0x3f).toInt64.toUInt64).toInt64) &&& (127 : Int64)).toInt32)]))
    refine Goes.on (fun t k => XS.istore X0.here hx rfl (hb hby d2_17) rfl (l' := #[rv a1, iv p2, iv p3, iv p4, .val (.long p5), .second, iv (((p5.toUInt64 >>> (((7 : Int32) * p3) &&& 0x3f).toInt64.toUInt64).toInt64) &&& (127 : Int64)).toInt32]) rfl k) ?_
    show Goes p e below QQ (s₁.setTop (mkF m 19 #[rv a1, iv p2, iv p3, iv p4, .val (.long p5), .second, iv (((p5.toUInt64 >>> (((7 : Int32) * p3) &&& 0x3f).toInt64.toUInt64).toInt64) &&& (127 : Int64)).toInt32] []))
    refine Goes.on (fun t k => XS.iloadN X0.here hx rfl (hb hby d2_19) rfl k) ?_
    show Goes p e below QQ (s₁.setTop (mkF m 20 #[rv a1, iv p2, iv p3, iv p4, .val (.long p5), .second, iv (((p5.toUInt64 >>> (((7 : Int32) * p3) &&& 0x3f).toInt64.toUInt64).toInt64) &&& (127 : Int64)).toInt32] [(.int p3)]))
    refine Goes.on (fun t k => XS.iloadN X0.here hx rfl (hb hby d2_20) rfl k) ?_
    show Goes p e below QQ (s₁.setTop (mkF m 21 #[rv a1, iv p2, iv p3, iv p4, .val (.long p5), .second, iv (((p5.toUInt64 >>> (((7 : Int32) * p3) &&& 0x3f).toInt64.toUInt64).toInt64) &&& (127 : Int64)).toInt32] [(.int p4), (.int p3)]))
    refine Goes.on (fun t k => XS.iconst X0.here hx rfl (hb hby d2_21) k) ?_
    show Goes p e below QQ (s₁.setTop (mkF m 22 #[rv a1, iv p2, iv p3, iv p4, .val (.long p5), .second, iv (((p5.toUInt64 >>> (((7 : Int32) * p3) &&& 0x3f).toInt64.toUInt64).toInt64) &&& (127 : Int64)).toInt32] [(.int 1), (.int p4), (.int p3)]))
    refine Goes.on (fun t k => XS.isub X0.here hx rfl (hb hby d2_22) rfl k) ?_
    show Goes p e below QQ (s₁.setTop (mkF m 23 #[rv a1, iv p2, iv p3, iv p4, .val (.long p5), .second, iv (((p5.toUInt64 >>> (((7 : Int32) * p3) &&& 0x3f).toInt64.toUInt64).toInt64) &&& (127 : Int64)).toInt32] [(.int (p4 - (1 : Int32))), (.int p3)]))
    have J2 : ∀ (TJ2 : State) (lJ2 : List Loc), Stand p l e ({ frames := 0, cells := 0, slots := 0, locals := 0 } : Room) s m #[(.ref a1), (.int p2), (.int p3), (.int p4), (.long p5)] below meth c TJ2 lJ2 0 0 → TJ2.heap = h0 → Fr n0 lJ2 → Goes p e below QQ (TJ2.setTop (mkF m 34 #[rv a1, iv p2, iv p3, iv p4, .val (.long p5), .second, iv (if p3 < (p4 - (1 : Int32)) then ((((p5.toUInt64 >>> (((7 : Int32) * p3) &&& 0x3f).toInt64.toUInt64).toInt64) &&& (127 : Int64)).toInt32 ||| (128 : Int32)) else (((p5.toUInt64 >>> (((7 : Int32) * p3) &&& 0x3f).toInt64.toUInt64).toInt64) &&& (127 : Int64)).toInt32)] [])) := by
      intro TJ2 lJ2 XJ2 eJ2 NJ2
      refine Goes.on (fun t k => XS.aloadN XJ2.here hx rfl (hb hby d2_34) rfl rfl k) ?_
      show Goes p e below QQ (TJ2.setTop (mkF m 35 #[rv a1, iv p2, iv p3, iv p4, .val (.long p5), .second, iv (if p3 < (p4 - (1 : Int32)) then ((((p5.toUInt64 >>> (((7 : Int32) * p3) &&& 0x3f).toInt64.toUInt64).toInt64) &&& (127 : Int64)).toInt32 ||| (128 : Int32)) else (((p5.toUInt64 >>> (((7 : Int32) * p3) &&& 0x3f).toInt64.toUInt64).toInt64) &&& (127 : Int64)).toInt32)] [(.ref a1)]))
      refine Goes.on (fun t k => XS.iloadN XJ2.here hx rfl (hb hby d2_35) rfl k) ?_
      show Goes p e below QQ (TJ2.setTop (mkF m 36 #[rv a1, iv p2, iv p3, iv p4, .val (.long p5), .second, iv (if p3 < (p4 - (1 : Int32)) then ((((p5.toUInt64 >>> (((7 : Int32) * p3) &&& 0x3f).toInt64.toUInt64).toInt64) &&& (127 : Int64)).toInt32 ||| (128 : Int32)) else (((p5.toUInt64 >>> (((7 : Int32) * p3) &&& 0x3f).toInt64.toUInt64).toInt64) &&& (127 : Int64)).toInt32)] [(.int p2), (.ref a1)]))
      refine Goes.on (fun t k => XS.iloadN XJ2.here hx rfl (hb hby d2_36) rfl k) ?_
      show Goes p e below QQ (TJ2.setTop (mkF m 37 #[rv a1, iv p2, iv p3, iv p4, .val (.long p5), .second, iv (if p3 < (p4 - (1 : Int32)) then ((((p5.toUInt64 >>> (((7 : Int32) * p3) &&& 0x3f).toInt64.toUInt64).toInt64) &&& (127 : Int64)).toInt32 ||| (128 : Int32)) else (((p5.toUInt64 >>> (((7 : Int32) * p3) &&& 0x3f).toInt64.toUInt64).toInt64) &&& (127 : Int64)).toInt32)] [(.int p3), (.int p2), (.ref a1)]))
      refine Goes.on (fun t k => XS.iadd XJ2.here hx rfl (hb hby d2_37) rfl k) ?_
      show Goes p e below QQ (TJ2.setTop (mkF m 38 #[rv a1, iv p2, iv p3, iv p4, .val (.long p5), .second, iv (if p3 < (p4 - (1 : Int32)) then ((((p5.toUInt64 >>> (((7 : Int32) * p3) &&& 0x3f).toInt64.toUInt64).toInt64) &&& (127 : Int64)).toInt32 ||| (128 : Int32)) else (((p5.toUInt64 >>> (((7 : Int32) * p3) &&& 0x3f).toInt64.toUInt64).toInt64) &&& (127 : Int64)).toInt32)] [(.int (p2 + p3)), (.ref a1)]))
      refine Goes.on (fun t k => XS.iload XJ2.here hx rfl (hb hby d2_38) rfl k) ?_
      show Goes p e below QQ (TJ2.setTop (mkF m 40 #[rv a1, iv p2, iv p3, iv p4, .val (.long p5), .second, iv (if p3 < (p4 - (1 : Int32)) then ((((p5.toUInt64 >>> (((7 : Int32) * p3) &&& 0x3f).toInt64.toUInt64).toInt64) &&& (127 : Int64)).toInt32 ||| (128 : Int32)) else (((p5.toUInt64 >>> (((7 : Int32) * p3) &&& 0x3f).toInt64.toUInt64).toInt64) &&& (127 : Int64)).toInt32)] [(.int (if p3 < (p4 - (1 : Int32)) then ((((p5.toUInt64 >>> (((7 : Int32) * p3) &&& 0x3f).toInt64.toUInt64).toInt64) &&& (127 : Int64)).toInt32 ||| (128 : Int32)) else (((p5.toUInt64 >>> (((7 : Int32) * p3) &&& 0x3f).toInt64.toUInt64).toInt64) &&& (127 : Int64)).toInt32)), (.int (p2 + p3)), (.ref a1)]))
      refine Goes.on (fun t k => XS.i2b XJ2.here hx rfl (hb hby d2_40) rfl k) ?_
      show Goes p e below QQ (TJ2.setTop (mkF m 41 #[rv a1, iv p2, iv p3, iv p4, .val (.long p5), .second, iv (if p3 < (p4 - (1 : Int32)) then ((((p5.toUInt64 >>> (((7 : Int32) * p3) &&& 0x3f).toInt64.toUInt64).toInt64) &&& (127 : Int64)).toInt32 ||| (128 : Int32)) else (((p5.toUInt64 >>> (((7 : Int32) * p3) &&& 0x3f).toInt64.toUInt64).toInt64) &&& (127 : Int64)).toInt32)] [(.int (if p3 < (p4 - (1 : Int32)) then ((((p5.toUInt64 >>> (((7 : Int32) * p3) &&& 0x3f).toInt64.toUInt64).toInt64) &&& (127 : Int64)).toInt32 ||| (128 : Int32)) else (((p5.toUInt64 >>> (((7 : Int32) * p3) &&& 0x3f).toInt64.toUInt64).toInt64) &&& (127 : Int64)).toInt32).toInt8.toInt32), (.int (p2 + p3)), (.ref a1)]))
      obtain ⟨cl3, Ar3, aq3, aS3, aN3, aH3, aG3⟩ := id V_a1
      have hin3 := inb_of (j := (p2 + p3)) aS3 I0
      obtain ⟨T4, h4, X4, e4, W4, st4⟩ := stB XJ2 hx hZ eJ2 Ar3 (j := (p2 + p3)) hin3 (g := (mkF m 41 #[rv a1, iv p2, iv p3, iv p4, .val (.long p5), .second, iv (if p3 < (p4 - (1 : Int32)) then ((((p5.toUInt64 >>> (((7 : Int32) * p3) &&& 0x3f).toInt64.toUInt64).toInt64) &&& (127 : Int64)).toInt32 ||| (128 : Int32)) else (((p5.toUInt64 >>> (((7 : Int32) * p3) &&& 0x3f).toInt64.toUInt64).toInt64) &&& (127 : Int64)).toInt32)] [(.int (if p3 < (p4 - (1 : Int32)) then ((((p5.toUInt64 >>> (((7 : Int32) * p3) &&& 0x3f).toInt64.toUInt64).toInt64) &&& (127 : Int64)).toInt32 ||| (128 : Int32)) else (((p5.toUInt64 >>> (((7 : Int32) * p3) &&& 0x3f).toInt64.toUInt64).toInt64) &&& (127 : Int64)).toInt32).toInt8.toInt32), (.int (p2 + p3)), (.ref a1)])) rfl rfl (hb hby d2_41)
      have K4 := K0.wr W4 (Or.inl (List.mem_of_getElem? (i := 0) rfl))
      have N4 := Fr.snoc X4 NJ2 g_a1
      have V_5 : Arv Z h4 a1 kk .byte zz (vs.set ((p2 + p3)).toNatClampNeg (.int (if p3 < (p4 - (1 : Int32)) then ((((p5.toUInt64 >>> (((7 : Int32) * p3) &&& 0x3f).toInt64.toUInt64).toInt64) &&& (127 : Int64)).toInt32 ||| (128 : Int32)) else (((p5.toUInt64 >>> (((7 : Int32) * p3) &&& 0x3f).toInt64.toUInt64).toInt64) &&& (127 : Int64)).toInt32).toInt8.toInt32.toInt8.toInt32)) (.int 0) := Arv.set Ar3 aq3 aS3 aN3 aH3 aG3 (fits_nar_byte _) W4 ((p2 + p3)).toNatClampNeg rfl L0
      refine Goes.on (fun t k => st4 t k) ?_
      show Goes p e below QQ (T4.setTop (mkF m 42 #[rv a1, iv p2, iv p3, iv p4, .val (.long p5), .second, iv (if p3 < (p4 - (1 : Int32)) then ((((p5.toUInt64 >>> (((7 : Int32) * p3) &&& 0x3f).toInt64.toUInt64).toInt64) &&& (127 : Int64)).toInt32 ||| (128 : Int32)) else (((p5.toUInt64 >>> (((7 : Int32) * p3) &&& 0x3f).toInt64.toUInt64).toInt64) &&& (127 : Int64)).toInt32)] []))
      exact Goes.rV X4 hx hret hlk (hb hby d2_42) hQQ (by rw [e4]; exact ⟨rfl, N4, K4, (by unfold putL; rw [if_pos hb1]; exact V_5)⟩) (by decide) (by decide)
    show Goes p e below QQ (s₁.setTop (mkF m 23 #[rv a1, iv p2, iv p3, iv p4, .val (.long p5), .second, iv (((p5.toUInt64 >>> (((7 : Int32) * p3) &&& 0x3f).toInt64.toUInt64).toInt64) &&& (127 : Int64)).toInt32] [(.int (p4 - (1 : Int32))), (.int p3)]))
    by_cases hb6 : p3 < (p4 - (1 : Int32))
    · refine Goes.on (fun t k => XS.icmpNo X0.here hx rfl (hb hby d2_23) rfl (tlt hb6).2.1 k) ?_
      show Goes p e below QQ (s₁.setTop (mkF m 26 #[rv a1, iv p2, iv p3, iv p4, .val (.long p5), .second, iv (((p5.toUInt64 >>> (((7 : Int32) * p3) &&& 0x3f).toInt64.toUInt64).toInt64) &&& (127 : Int64)).toInt32] []))
      refine Goes.on (fun t k => XS.iload X0.here hx rfl (hb hby d2_26) rfl k) ?_
      show Goes p e below QQ (s₁.setTop (mkF m 28 #[rv a1, iv p2, iv p3, iv p4, .val (.long p5), .second, iv (((p5.toUInt64 >>> (((7 : Int32) * p3) &&& 0x3f).toInt64.toUInt64).toInt64) &&& (127 : Int64)).toInt32] [(.int (((p5.toUInt64 >>> (((7 : Int32) * p3) &&& 0x3f).toInt64.toUInt64).toInt64) &&& (127 : Int64)).toInt32)]))
      refine Goes.on (fun t k => XS.sipush X0.here hx rfl (hb hby d2_28) k) ?_
      show Goes p e below QQ (s₁.setTop (mkF m 31 #[rv a1, iv p2, iv p3, iv p4, .val (.long p5), .second, iv (((p5.toUInt64 >>> (((7 : Int32) * p3) &&& 0x3f).toInt64.toUInt64).toInt64) &&& (127 : Int64)).toInt32] [(.int 128), (.int (((p5.toUInt64 >>> (((7 : Int32) * p3) &&& 0x3f).toInt64.toUInt64).toInt64) &&& (127 : Int64)).toInt32)]))
      refine Goes.on (fun t k => XS.ior X0.here hx rfl (hb hby d2_31) rfl k) ?_
      show Goes p e below QQ (s₁.setTop (mkF m 32 #[rv a1, iv p2, iv p3, iv p4, .val (.long p5), .second, iv (((p5.toUInt64 >>> (((7 : Int32) * p3) &&& 0x3f).toInt64.toUInt64).toInt64) &&& (127 : Int64)).toInt32] [(.int ((((p5.toUInt64 >>> (((7 : Int32) * p3) &&& 0x3f).toInt64.toUInt64).toInt64) &&& (127 : Int64)).toInt32 ||| (128 : Int32)))]))
      refine Goes.on (fun t k => XS.istore X0.here hx rfl (hb hby d2_32) rfl (l' := #[rv a1, iv p2, iv p3, iv p4, .val (.long p5), .second, iv ((((p5.toUInt64 >>> (((7 : Int32) * p3) &&& 0x3f).toInt64.toUInt64).toInt64) &&& (127 : Int64)).toInt32 ||| (128 : Int32))]) rfl k) ?_
      show Goes p e below QQ (s₁.setTop (mkF m 34 #[rv a1, iv p2, iv p3, iv p4, .val (.long p5), .second, iv ((((p5.toUInt64 >>> (((7 : Int32) * p3) &&& 0x3f).toInt64.toUInt64).toInt64) &&& (127 : Int64)).toInt32 ||| (128 : Int32))] []))
      rw [(((if_pos hb6).trans rfl) : (if p3 < (p4 - (1 : Int32)) then ((((p5.toUInt64 >>> (((7 : Int32) * p3) &&& 0x3f).toInt64.toUInt64).toInt64) &&& (127 : Int64)).toInt32 ||| (128 : Int32)) else (((p5.toUInt64 >>> (((7 : Int32) * p3) &&& 0x3f).toInt64.toUInt64).toInt64) &&& (127 : Int64)).toInt32) = ((((p5.toUInt64 >>> (((7 : Int32) * p3) &&& 0x3f).toInt64.toUInt64).toInt64) &&& (127 : Int64)).toInt32 ||| (128 : Int32)))] at J2
      exact J2 _ _ X0 e0 N0
    · refine Goes.on (fun t k => XS.icmpYes X0.here hx rfl (pc0 := 23) (pc' := 34) rfl (hb hby d2_23) rfl (flt hb6).2.1 (by decide) (by decide) k) ?_
      show Goes p e below QQ (s₁.setTop (mkF m 34 #[rv a1, iv p2, iv p3, iv p4, .val (.long p5), .second, iv (((p5.toUInt64 >>> (((7 : Int32) * p3) &&& 0x3f).toInt64.toUInt64).toInt64) &&& (127 : Int64)).toInt32] []))
      rw [(((if_neg hb6).trans rfl) : (if p3 < (p4 - (1 : Int32)) then ((((p5.toUInt64 >>> (((7 : Int32) * p3) &&& 0x3f).toInt64.toUInt64).toInt64) &&& (127 : Int64)).toInt32 ||| (128 : Int32)) else (((p5.toUInt64 >>> (((7 : Int32) * p3) &&& 0x3f).toInt64.toUInt64).toInt64) &&& (127 : Int64)).toInt32) = (((p5.toUInt64 >>> (((7 : Int32) * p3) &&& 0x3f).toInt64.toUInt64).toInt64) &&& (127 : Int64)).toInt32)] at J2
      exact J2 _ _ X0 e0 N0
  · refine Goes.on (fun t k => XS.icmpYes X0.here hx rfl (pc0 := 2) (pc' := 42) rfl (hb hby d2_2) rfl (flt hb1).2.1 (by decide) (by decide) k) ?_
    show Goes p e below QQ (s₁.setTop (mkF m 42 #[rv a1, iv p2, iv p3, iv p4, .val (.long p5), .second, .unset] []))
    exact Goes.rV X0 hx hret hlk (hb hby d2_42) hQQ (by rw [e0]; exact ⟨rfl, N0, K0, (by unfold putL; rw [if_neg hb1]; exact V_a1)⟩) (by decide) (by decide)
theorem d7_0 : decode jdk_22_method_1_code 0 = .ok (.aload_n 0, 1) := by decide +kernel
theorem d7_1 : decode jdk_22_method_1_code 1 = .ok (.invokespecial 1, 3) := by decide +kernel
theorem d7_4 : decode jdk_22_method_1_code 4 = .ok (.return_, 1) := by decide +kernel
theorem pn_7 : plainFor (⟨"java/util/AbstractCollection", "<init>", "()V"⟩ : MethodName) = true := plainFor_of_name (show plainName "java/util/AbstractCollection" = true by first | (simp [plainName, overriddenIn]; done) | decide +kernel)
theorem ef_rmAC (m : MethodId) (x0 : Addr) : entryFrame m #[(.ref x0)] 1 = mkF m 0 #[rv x0] [] := by first | (simp [entryFrame, mkF, argsToLocals, Value.category]; done) | rfl
set_option maxRecDepth 65536 in
set_option maxHeartbeats 40000000 in
theorem rmAC (l : Launch) (Z : State) (a0 : Array Value) (hw : ∀ d ∈ tables_1, d.before a0 Z = true) (ws : List Jvm.Cond) (a1 : Addr) (h0 : Heap) (n0 : Nat) (Z0 : n0 ≤ h0.size)  :
    MetFree l (⟨"java/util/AbstractCollection", "<init>", "()V"⟩ : MethodName) (head1 (Jvm.Cond.code (⟨"java/util/AbstractCollection", "<init>", "()V"⟩ : MethodName) jdk_22_method_1_code 1 none :: ws) ({ frames := 1, cells := 0, slots := 0, locals := 12 } : Room)) (fun a U => a = #[(.ref a1)] ∧ Z.Warmed39 U.vm ∧ U.heap = h0) (fun _ _ _ _ _ => True) (fun _ U o U' => ∃ v L, o = .returned v ∧ QV h0 n0 v U'.heap L ∧ FrameEnd U o U' L ({ frames := 1, cells := 0, slots := 0, locals := 12 } : Room).cells ({ frames := 1, cells := 0, slots := 0, locals := 12 } : Room).slots) := by
  refine own_enter pn_7 ?_
  intro p e s m below meth c s₁ QQ hQQ hx hby hml hown hnm hret hlk hZ X0 e0
  have hown : s.vm.findClass "java/util/AbstractCollection" = some m.cls := hown
  have hml : c.maxLocals = 1 := hml
  have hret : meth.sig.returnType = none := hret
  have N0 := Fr.nil n0
  have K0 := Keep.refl h0 []
  refine Goes.cast (ef_rmAC m a1) ?_
  show Goes p e below QQ (s₁.setTop (mkF m 0 #[rv a1] []))
  refine Goes.on (fun t k => XS.aloadN X0.here hx rfl (hb hby d7_0) rfl rfl k) ?_
  show Goes p e below QQ (s₁.setTop (mkF m 1 #[rv a1] [(.ref a1)]))
  obtain ⟨T1, X1, e1, st1⟩ := initO X0 hx hZ hown (hw _ (List.mem_of_getElem? (i := 40) rfl)) (hw _ (List.mem_of_getElem? (i := 20) rfl)) (hw _ (List.mem_of_getElem? (i := 21) rfl)) e0 (g := (mkF m 1 #[rv a1] [(.ref a1)])) rfl (by rw [hml]; rfl) rfl (hb hby d7_1) (by decide) (W := 0) (by show 2 * 0 + _ ≤ _; exact Nat.le_of_eq rfl) (by decide)
  refine Goes.on (fun t k => st1 t k) ?_
  show Goes p e below QQ (T1.setTop (mkF m 4 #[rv a1] []))
  exact Goes.rV X1 hx hret hlk (hb hby d7_4) hQQ ⟨rfl, N0, e1⟩ (by decide) (by decide)
theorem d6_0 : decode jdk_39_method_1_code 0 = .ok (.aload_n 0, 1) := by decide +kernel
theorem d6_1 : decode jdk_39_method_1_code 1 = .ok (.invokespecial 1, 3) := by decide +kernel
theorem d6_4 : decode jdk_39_method_1_code 4 = .ok (.aload_n 0, 1) := by decide +kernel
theorem d6_5 : decode jdk_39_method_1_code 5 = .ok (.iconst 0, 1) := by decide +kernel
theorem d6_6 : decode jdk_39_method_1_code 6 = .ok (.putfield 7, 3) := by decide +kernel
theorem d6_9 : decode jdk_39_method_1_code 9 = .ok (.return_, 1) := by decide +kernel
theorem pn_6 : plainFor (⟨"java/util/AbstractList", "<init>", "()V"⟩ : MethodName) = true := plainFor_of_name (show plainName "java/util/AbstractList" = true by first | (simp [plainName, overriddenIn]; done) | decide +kernel)
theorem ef_rmAb (m : MethodId) (x0 : Addr) : entryFrame m #[(.ref x0)] 1 = mkF m 0 #[rv x0] [] := by first | (simp [entryFrame, mkF, argsToLocals, Value.category]; done) | rfl
theorem pd_0 : parseMethodDescriptor "()V" = some ⟨[], none⟩ := by decide +kernel
set_option maxRecDepth 65536 in
set_option maxHeartbeats 40000000 in
theorem rmAb (l : Launch) (Z : State) (a0 : Array Value) (hw : ∀ d ∈ tables_1, d.before a0 Z = true) (ws : List Jvm.Cond) (a1 : Addr) (h0 : Heap) (n0 : Nat) (Z0 : n0 ≤ h0.size) (E_a1 : Exa Z h0 a1 "java/util/ArrayList") (F_modCount_a1 : Fld Z h0 a1 "java/util/AbstractList" "modCount" "I" (.int 0)) (g_a1 : n0 ≤ a1) :
    MetFree l (⟨"java/util/AbstractList", "<init>", "()V"⟩ : MethodName) (head1 (Jvm.Cond.code (⟨"java/util/AbstractList", "<init>", "()V"⟩ : MethodName) jdk_39_method_1_code 1 none :: ws) ({ frames := 2, cells := 0, slots := 0, locals := 24 } : Room)) (fun a U => a = #[(.ref a1)] ∧ Z.Warmed39 U.vm ∧ U.heap = h0) (fun _ _ _ _ _ => True) (fun _ U o U' => ∃ v L, o = .returned v ∧ QN a1 h0 n0 v U'.heap L ∧ FrameEnd U o U' L ({ frames := 2, cells := 0, slots := 0, locals := 24 } : Room).cells ({ frames := 2, cells := 0, slots := 0, locals := 24 } : Room).slots) := by
  refine own_enter pn_6 ?_
  intro p e s m below meth c s₁ QQ hQQ hx hby hml hown hnm hret hlk hZ X0 e0
  have hown : s.vm.findClass "java/util/AbstractList" = some m.cls := hown
  have hml : c.maxLocals = 1 := hml
  have hret : meth.sig.returnType = none := hret
  have N0 := Fr.nil n0
  have K0 := Keep.refl h0 [a1]
  refine Goes.cast (ef_rmAb m a1) ?_
  show Goes p e below QQ (s₁.setTop (mkF m 0 #[rv a1] []))
  refine Goes.on (fun t k => XS.aloadN X0.here hx rfl (hb hby d6_0) rfl rfl k) ?_
  show Goes p e below QQ (s₁.setTop (mkF m 1 #[rv a1] [(.ref a1)]))
  obtain ⟨_, _, ⟨T1, L1, k1, n1⟩, -, X1, ⟨Lc1, hQ1, l1, y1, z1⟩, st1⟩ := X0.specialBack hx (y := (⟨"java/util/AbstractCollection", "<init>", "()V"⟩ : MethodName)) rfl hown (mvT hZ (hw _ (List.mem_of_getElem? (i := 34) rfl))) (mvT hZ (hw _ (List.mem_of_getElem? (i := 35) rfl))) (mvT hZ (hw _ (List.mem_of_getElem? (i := 39) rfl))) (by decide) (backOf (W := 0) (rmAC l Z a0 hw [] a1 h0 n0 (Nat.le_trans Z0 K0.1)) hZ (hw _ (List.mem_of_getElem? (i := 39) rfl)) (hw _ (List.mem_of_getElem? (i := 38) rfl)) (by decide) (by decide)) (g := (mkF m 1 #[rv a1] [(.ref a1)])) rfl (by rw [hml]; rfl) (Steps.refl _) (a := a1) (argsL := []) (rest := []) (lenOf pd_0 rfl) rfl (by show 2 * 0 + _ ≤ _; exact Nat.le_of_eq rfl) (hb hby d6_1) (fun _ _ => ⟨rfl, e0, (by decide : 0 + 0 ≤ _), (by decide : 0 + 0 ≤ _)⟩)
  dsimp only [Pt.U, Pt.locs, Pt.cells, Pt.slots] at X1 l1 y1 z1 st1 hQ1
  have l1 := l1.symm; have y1 := y1.symm; have z1 := z1.symm; subst l1 y1 z1
  have X1 : Stand p l e ({ frames := 2, cells := 0, slots := 0, locals := 24 } : Room) s m #[(.ref a1)] below meth c T1 _ 0 0 := X1
  obtain ⟨rfl, M1, e1⟩ := hQ1
  have N1 := Fr.app N0 M1
  refine Goes.on (fun t k => st1.trans k) ?_
  show Goes p e below QQ (T1.setTop (mkF m 4 #[rv a1] []))
  refine Goes.on (fun t k => XS.aloadN X1.here hx rfl (hb hby d6_4) rfl rfl k) ?_
  show Goes p e below QQ (T1.setTop (mkF m 5 #[rv a1] [(.ref a1)]))
  refine Goes.on (fun t k => XS.iconst X1.here hx rfl (hb hby d6_5) k) ?_
  show Goes p e below QQ (T1.setTop (mkF m 6 #[rv a1] [(.int 0), (.ref a1)]))
  obtain ⟨T2, h2, X2, e2, W2, st2⟩ := putF X1 hx hZ hown (host := "") (Or.inl (hw _ (List.mem_of_getElem? (i := 41) rfl))) Via.refl e1 F_modCount_a1 E_a1 (Or.inl (hw _ (List.mem_of_getElem? (i := 42) rfl))) (hw _ (List.mem_of_getElem? (i := 23) rfl)) (ty := .int) (by decide) rfl rfl (g := (mkF m 6 #[rv a1] [(.int 0), (.ref a1)])) rfl rfl (hb hby d6_6)
  have E_3 := E_a1.wr W2
  have K2 := K0.wr W2 (Or.inl (List.mem_of_getElem? (i := 0) rfl))
  have N2 := Fr.snoc X2 N1 g_a1
  have F_4 : Fld Z h2 a1 "java/util/AbstractList" "modCount" "I" (.int 0) := F_modCount_a1.same W2
  refine Goes.on (fun t k => st2 t k) ?_
  show Goes p e below QQ (T2.setTop (mkF m 9 #[rv a1] []))
  exact Goes.rV X2 hx hret hlk (hb hby d6_9) hQQ (by rw [e2]; exact ⟨rfl, N2, K2⟩) (by decide) (by decide)
theorem d5_0 : decode jdk_38_method_2_code 0 = .ok (.aload_n 0, 1) := by decide +kernel
theorem d5_1 : decode jdk_38_method_2_code 1 = .ok (.invokespecial 1, 3) := by decide +kernel
theorem d5_4 : decode jdk_38_method_2_code 4 = .ok (.aload_n 0, 1) := by decide +kernel
theorem d5_5 : decode jdk_38_method_2_code 5 = .ok (.getstatic 39, 3) := by decide +kernel
theorem d5_8 : decode jdk_38_method_2_code 8 = .ok (.putfield 9, 3) := by decide +kernel
theorem d5_11 : decode jdk_38_method_2_code 11 = .ok (.return_, 1) := by decide +kernel
theorem pn_5 : plainFor (⟨"java/util/ArrayList", "<init>", "()V"⟩ : MethodName) = true := plainFor_of_name (show plainName "java/util/ArrayList" = true by first | (simp [plainName, overriddenIn]; done) | decide +kernel)
theorem ef_rmAr (m : MethodId) (x0 : Addr) : entryFrame m #[(.ref x0)] 1 = mkF m 0 #[rv x0] [] := by first | (simp [entryFrame, mkF, argsToLocals, Value.category]; done) | rfl
set_option maxRecDepth 65536 in
set_option maxHeartbeats 40000000 in
theorem rmAr (l : Launch) (Z : State) (a0 : Array Value) (hw : ∀ d ∈ tables_1, d.before a0 Z = true) (ws : List Jvm.Cond) (a1 xD : Addr) (h0 : Heap) (n0 : Nat) (Z0 : n0 ≤ h0.size) (E_a1 : Exa Z h0 a1 "java/util/ArrayList") (F_modCount_a1 : Fld Z h0 a1 "java/util/AbstractList" "modCount" "I" (.int 0)) (F_elementData_a1 : Fld Z h0 a1 "java/util/ArrayList" "elementData" "[Ljava/lang/Object;" .null) (g_a1 : n0 ≤ a1) (S_DEFAULTCAPACITY_EMPTY_ELEMENTDATA : Sta Z Z.heap "java/util/ArrayList" "DEFAULTCAPACITY_EMPTY_ELEMENTDATA" "[Ljava/lang/Object;" (.ref xD)) (O_0 : Old Z n0 h0) :
    MetFree l (⟨"java/util/ArrayList", "<init>", "()V"⟩ : MethodName) (head1 (Jvm.Cond.code (⟨"java/util/ArrayList", "<init>", "()V"⟩ : MethodName) jdk_38_method_2_code 1 none :: ws) ({ frames := 3, cells := 0, slots := 0, locals := 36 } : Room)) (fun a U => a = #[(.ref a1)] ∧ Z.Warmed39 U.vm ∧ U.heap = h0) (fun _ _ _ _ _ => True) (fun _ U o U' => ∃ v L, o = .returned v ∧ QN a1 h0 n0 v U'.heap L ∧ FrameEnd U o U' L ({ frames := 3, cells := 0, slots := 0, locals := 36 } : Room).cells ({ frames := 3, cells := 0, slots := 0, locals := 36 } : Room).slots) := by
  refine own_enter pn_5 ?_
  intro p e s m below meth c s₁ QQ hQQ hx hby hml hown hnm hret hlk hZ X0 e0
  have hown : s.vm.findClass "java/util/ArrayList" = some m.cls := hown
  have hml : c.maxLocals = 1 := hml
  have hret : meth.sig.returnType = none := hret
  have N0 := Fr.nil n0
  have K0 := Keep.refl h0 [a1]
  refine Goes.cast (ef_rmAr m a1) ?_
  show Goes p e below QQ (s₁.setTop (mkF m 0 #[rv a1] []))
  refine Goes.on (fun t k => XS.aloadN X0.here hx rfl (hb hby d5_0) rfl rfl k) ?_
  show Goes p e below QQ (s₁.setTop (mkF m 1 #[rv a1] [(.ref a1)]))
  obtain ⟨_, _, ⟨T1, L1, k1, n1⟩, -, X1, ⟨Lc1, hQ1, l1, y1, z1⟩, st1⟩ := X0.specialBack hx (y := (⟨"java/util/AbstractList", "<init>", "()V"⟩ : MethodName)) rfl hown (mvT hZ (hw _ (List.mem_of_getElem? (i := 28) rfl))) (mvT hZ (hw _ (List.mem_of_getElem? (i := 29) rfl))) (mvT hZ (hw _ (List.mem_of_getElem? (i := 33) rfl))) (by decide) (backOf (W := 0) (rmAb l Z a0 hw [] a1 h0 n0 (Nat.le_trans Z0 K0.1) E_a1 F_modCount_a1 g_a1) hZ (hw _ (List.mem_of_getElem? (i := 33) rfl)) (hw _ (List.mem_of_getElem? (i := 32) rfl)) (by decide) (by decide)) (g := (mkF m 1 #[rv a1] [(.ref a1)])) rfl (by rw [hml]; rfl) (Steps.refl _) (a := a1) (argsL := []) (rest := []) (lenOf pd_0 rfl) rfl (by show 2 * 0 + _ ≤ _; exact Nat.le_of_eq rfl) (hb hby d5_1) (fun _ _ => ⟨rfl, e0, (by decide : 0 + 0 ≤ _), (by decide : 0 + 0 ≤ _)⟩)
  dsimp only [Pt.U, Pt.locs, Pt.cells, Pt.slots] at X1 l1 y1 z1 st1 hQ1
  have l1 := l1.symm; have y1 := y1.symm; have z1 := z1.symm; subst l1 y1 z1
  have X1 : Stand p l e ({ frames := 3, cells := 0, slots := 0, locals := 36 } : Room) s m #[(.ref a1)] below meth c T1 _ 0 0 := X1
  obtain ⟨rfl, M1, Kb⟩ := hQ1
  have N1 := Fr.app N0 M1
  refine Goes.on (fun t k => st1.trans k) ?_
  have E_2 := E_a1.keep Kb
  have O_5 := O_0.keep Kb (allS g_a1 all0)
  have K6 := K0.trans Kb (allS (Or.inl (List.mem_of_getElem? (i := 0) rfl)) all0)
  show Goes p e below QQ (T1.setTop (mkF m 4 #[rv a1] []))
  obtain ⟨ov, Fov⟩ := own_anyK F_elementData_a1 Kb
  refine Goes.on (fun t k => XS.aloadN X1.here hx rfl (hb hby d5_4) rfl rfl k) ?_
  show Goes p e below QQ (T1.setTop (mkF m 5 #[rv a1] [(.ref a1)]))
  obtain ⟨T7, X7, e7, st7⟩ := getS2 X1 hx hZ hown (host := "") (Or.inl (hw _ (List.mem_of_getElem? (i := 43) rfl))) Via.refl rfl (S_DEFAULTCAPACITY_EMPTY_ELEMENTDATA.ext O_5.2) (g := (mkF m 5 #[rv a1] [(.ref a1)])) rfl (hb hby d5_5)
  refine Goes.on (fun t k => st7 t k) ?_
  show Goes p e below QQ (T7.setTop (mkF m 8 #[rv a1] [(.ref xD), (.ref a1)]))
  obtain ⟨T8, h8, X8, e8, W8, st8⟩ := putF X7 hx hZ hown (host := "") (Or.inl (hw _ (List.mem_of_getElem? (i := 44) rfl))) Via.refl e7 Fov E_2 (Or.inl (hw _ (List.mem_of_getElem? (i := 45) rfl))) (hw _ (List.mem_of_getElem? (i := 23) rfl)) (ty := (.array (.object "java/lang/Object"))) (by decide) rfl rfl (g := (mkF m 8 #[rv a1] [(.ref xD), (.ref a1)])) rfl rfl (hb hby d5_8)
  have E_9 := E_2.wr W8
  have O_10 := O_5.wr W8 g_a1
  have K8 := K6.wr W8 (Or.inl (List.mem_of_getElem? (i := 0) rfl))
  have N8 := Fr.snoc X8 N1 g_a1
  have F_11 : Fld Z h8 a1 "java/util/ArrayList" "elementData" "[Ljava/lang/Object;" (.ref xD) := Fov.same W8
  refine Goes.on (fun t k => st8 t k) ?_
  show Goes p e below QQ (T8.setTop (mkF m 11 #[rv a1] []))
  exact Goes.rV X8 hx hret hlk (hb hby d5_11) hQQ (by rw [e8]; exact ⟨rfl, N8, K8⟩) (by decide) (by decide)
theorem d9_0 : decode jdk_71_method_1_code 0 = .ok (.aload_n 0, 1) := by decide +kernel
theorem d9_1 : decode jdk_71_method_1_code 1 = .ok (.invokespecial 1, 3) := by decide +kernel
theorem d9_4 : decode jdk_71_method_1_code 4 = .ok (.return_, 1) := by decide +kernel
theorem pn_9 : plainFor (⟨"java/util/AbstractMap", "<init>", "()V"⟩ : MethodName) = true := plainFor_of_name (show plainName "java/util/AbstractMap" = true by first | (simp [plainName, overriddenIn]; done) | decide +kernel)
theorem ef_rmAM (m : MethodId) (x0 : Addr) : entryFrame m #[(.ref x0)] 1 = mkF m 0 #[rv x0] [] := by first | (simp [entryFrame, mkF, argsToLocals, Value.category]; done) | rfl
set_option maxRecDepth 65536 in
set_option maxHeartbeats 40000000 in
theorem rmAM (l : Launch) (Z : State) (a0 : Array Value) (hw : ∀ d ∈ tables_1, d.before a0 Z = true) (ws : List Jvm.Cond) (a1 : Addr) (h0 : Heap) (n0 : Nat) (Z0 : n0 ≤ h0.size)  :
    MetFree l (⟨"java/util/AbstractMap", "<init>", "()V"⟩ : MethodName) (head1 (Jvm.Cond.code (⟨"java/util/AbstractMap", "<init>", "()V"⟩ : MethodName) jdk_71_method_1_code 1 none :: ws) ({ frames := 1, cells := 0, slots := 0, locals := 12 } : Room)) (fun a U => a = #[(.ref a1)] ∧ Z.Warmed39 U.vm ∧ U.heap = h0) (fun _ _ _ _ _ => True) (fun _ U o U' => ∃ v L, o = .returned v ∧ QV h0 n0 v U'.heap L ∧ FrameEnd U o U' L ({ frames := 1, cells := 0, slots := 0, locals := 12 } : Room).cells ({ frames := 1, cells := 0, slots := 0, locals := 12 } : Room).slots) := by
  refine own_enter pn_9 ?_
  intro p e s m below meth c s₁ QQ hQQ hx hby hml hown hnm hret hlk hZ X0 e0
  have hown : s.vm.findClass "java/util/AbstractMap" = some m.cls := hown
  have hml : c.maxLocals = 1 := hml
  have hret : meth.sig.returnType = none := hret
  have N0 := Fr.nil n0
  have K0 := Keep.refl h0 []
  refine Goes.cast (ef_rmAM m a1) ?_
  show Goes p e below QQ (s₁.setTop (mkF m 0 #[rv a1] []))
  refine Goes.on (fun t k => XS.aloadN X0.here hx rfl (hb hby d9_0) rfl rfl k) ?_
  show Goes p e below QQ (s₁.setTop (mkF m 1 #[rv a1] [(.ref a1)]))
  obtain ⟨T1, X1, e1, st1⟩ := initO X0 hx hZ hown (hw _ (List.mem_of_getElem? (i := 60) rfl)) (hw _ (List.mem_of_getElem? (i := 20) rfl)) (hw _ (List.mem_of_getElem? (i := 21) rfl)) e0 (g := (mkF m 1 #[rv a1] [(.ref a1)])) rfl (by rw [hml]; rfl) rfl (hb hby d9_1) (by decide) (W := 0) (by show 2 * 0 + _ ≤ _; exact Nat.le_of_eq rfl) (by decide)
  refine Goes.on (fun t k => st1 t k) ?_
  show Goes p e below QQ (T1.setTop (mkF m 4 #[rv a1] []))
  exact Goes.rV X1 hx hret hlk (hb hby d9_4) hQQ ⟨rfl, N0, e1⟩ (by decide) (by decide)
theorem d8_0 : decode jdk_69_method_7_code 0 = .ok (.aload_n 0, 1) := by decide +kernel
theorem d8_1 : decode jdk_69_method_7_code 1 = .ok (.invokespecial 43, 3) := by decide +kernel
theorem d8_4 : decode jdk_69_method_7_code 4 = .ok (.aload_n 0, 1) := by decide +kernel
theorem d8_5 : decode jdk_69_method_7_code 5 = .ok (.ldc 92, 2) := by decide +kernel
theorem d8_7 : decode jdk_69_method_7_code 7 = .ok (.putfield 81, 3) := by decide +kernel
theorem d8_10 : decode jdk_69_method_7_code 10 = .ok (.return_, 1) := by decide +kernel
theorem pn_8 : plainFor (⟨"java/util/HashMap", "<init>", "()V"⟩ : MethodName) = true := plainFor_of_name (show plainName "java/util/HashMap" = true by first | (simp [plainName, overriddenIn]; done) | decide +kernel)
theorem ef_rmHM (m : MethodId) (x0 : Addr) : entryFrame m #[(.ref x0)] 1 = mkF m 0 #[rv x0] [] := by first | (simp [entryFrame, mkF, argsToLocals, Value.category]; done) | rfl
set_option maxRecDepth 65536 in
set_option maxHeartbeats 40000000 in
theorem rmHM (l : Launch) (Z : State) (a0 : Array Value) (hw : ∀ d ∈ tables_1, d.before a0 Z = true) (ws : List Jvm.Cond) (a1 : Addr) (h0 : Heap) (n0 : Nat) (Z0 : n0 ≤ h0.size) (E_a1 : Exa Z h0 a1 "java/util/HashMap") (F_loadFactor_a1 : Fld Z h0 a1 "java/util/HashMap" "loadFactor" "F" (.float (0 : UInt32))) (g_a1 : n0 ≤ a1) :
    MetFree l (⟨"java/util/HashMap", "<init>", "()V"⟩ : MethodName) (head1 (Jvm.Cond.code (⟨"java/util/HashMap", "<init>", "()V"⟩ : MethodName) jdk_69_method_7_code 1 none :: ws) ({ frames := 2, cells := 0, slots := 0, locals := 24 } : Room)) (fun a U => a = #[(.ref a1)] ∧ Z.Warmed39 U.vm ∧ U.heap = h0) (fun _ _ _ _ _ => True) (fun _ U o U' => ∃ v L, o = .returned v ∧ QN a1 h0 n0 v U'.heap L ∧ FrameEnd U o U' L ({ frames := 2, cells := 0, slots := 0, locals := 24 } : Room).cells ({ frames := 2, cells := 0, slots := 0, locals := 24 } : Room).slots) := by
  refine own_enter pn_8 ?_
  intro p e s m below meth c s₁ QQ hQQ hx hby hml hown hnm hret hlk hZ X0 e0
  have hown : s.vm.findClass "java/util/HashMap" = some m.cls := hown
  have hml : c.maxLocals = 1 := hml
  have hret : meth.sig.returnType = none := hret
  have N0 := Fr.nil n0
  have K0 := Keep.refl h0 [a1]
  refine Goes.cast (ef_rmHM m a1) ?_
  show Goes p e below QQ (s₁.setTop (mkF m 0 #[rv a1] []))
  refine Goes.on (fun t k => XS.aloadN X0.here hx rfl (hb hby d8_0) rfl rfl k) ?_
  show Goes p e below QQ (s₁.setTop (mkF m 1 #[rv a1] [(.ref a1)]))
  obtain ⟨_, _, ⟨T1, L1, k1, n1⟩, -, X1, ⟨Lc1, hQ1, l1, y1, z1⟩, st1⟩ := X0.specialBack hx (y := (⟨"java/util/AbstractMap", "<init>", "()V"⟩ : MethodName)) rfl hown (mvT hZ (hw _ (List.mem_of_getElem? (i := 54) rfl))) (mvT hZ (hw _ (List.mem_of_getElem? (i := 55) rfl))) (mvT hZ (hw _ (List.mem_of_getElem? (i := 59) rfl))) (by decide) (backOf (W := 0) (rmAM l Z a0 hw [] a1 h0 n0 (Nat.le_trans Z0 K0.1)) hZ (hw _ (List.mem_of_getElem? (i := 59) rfl)) (hw _ (List.mem_of_getElem? (i := 58) rfl)) (by decide) (by decide)) (g := (mkF m 1 #[rv a1] [(.ref a1)])) rfl (by rw [hml]; rfl) (Steps.refl _) (a := a1) (argsL := []) (rest := []) (lenOf pd_0 rfl) rfl (by show 2 * 0 + _ ≤ _; exact Nat.le_of_eq rfl) (hb hby d8_1) (fun _ _ => ⟨rfl, e0, (by decide : 0 + 0 ≤ _), (by decide : 0 + 0 ≤ _)⟩)
  dsimp only [Pt.U, Pt.locs, Pt.cells, Pt.slots] at X1 l1 y1 z1 st1 hQ1
  have l1 := l1.symm; have y1 := y1.symm; have z1 := z1.symm; subst l1 y1 z1
  have X1 : Stand p l e ({ frames := 2, cells := 0, slots := 0, locals := 24 } : Room) s m #[(.ref a1)] below meth c T1 _ 0 0 := X1
  obtain ⟨rfl, M1, e1⟩ := hQ1
  have N1 := Fr.app N0 M1
  refine Goes.on (fun t k => st1.trans k) ?_
  show Goes p e below QQ (T1.setTop (mkF m 4 #[rv a1] []))
  refine Goes.on (fun t k => XS.aloadN X1.here hx rfl (hb hby d8_4) rfl rfl k) ?_
  show Goes p e below QQ (T1.setTop (mkF m 5 #[rv a1] [(.ref a1)]))
  refine Goes.on (fun t k => X1.ldcFloatC hx hown (mvT hZ (hw _ (List.mem_of_getElem? (i := 61) rfl))) (g := (mkF m 5 #[rv a1] [(.ref a1)])) rfl (hb hby d8_5) t k) ?_
  show Goes p e below QQ (T1.setTop (mkF m 7 #[rv a1] [(.float (1061158912 : UInt32)), (.ref a1)]))
  obtain ⟨T2, h2, X2, e2, W2, st2⟩ := putF X1 hx hZ hown (host := "") (Or.inl (hw _ (List.mem_of_getElem? (i := 62) rfl))) Via.refl e1 F_loadFactor_a1 E_a1 (Or.inr ⟨(hw _ (List.mem_of_getElem? (i := 63) rfl)), rfl, hnm⟩) (hw _ (List.mem_of_getElem? (i := 49) rfl)) (ty := .float) (by decide) rfl rfl (g := (mkF m 7 #[rv a1] [(.float (1061158912 : UInt32)), (.ref a1)])) rfl rfl (hb hby d8_7)
  have E_3 := E_a1.wr W2
  have K2 := K0.wr W2 (Or.inl (List.mem_of_getElem? (i := 0) rfl))
  have N2 := Fr.snoc X2 N1 g_a1
  have F_4 : Fld Z h2 a1 "java/util/HashMap" "loadFactor" "F" (.float (1061158912 : UInt32)) := F_loadFactor_a1.same W2
  refine Goes.on (fun t k => st2 t k) ?_
  show Goes p e below QQ (T2.setTop (mkF m 10 #[rv a1] []))
  exact Goes.rV X2 hx hret hlk (hb hby d8_10) hQQ (by rw [e2]; exact ⟨rfl, N2, K2⟩) (by decide) (by decide)
theorem d3_0 : decode prog_11_method_1_code 0 = .ok (.aload_n 0, 1) := by decide +kernel
theorem d3_1 : decode prog_11_method_1_code 1 = .ok (.invokespecial 1, 3) := by decide +kernel
theorem d3_4 : decode prog_11_method_1_code 4 = .ok (.aload_n 0, 1) := by decide +kernel
theorem d3_5 : decode prog_11_method_1_code 5 = .ok (.new 7, 3) := by decide +kernel
theorem d3_8 : decode prog_11_method_1_code 8 = .ok (.dup, 1) := by decide +kernel
theorem d3_9 : decode prog_11_method_1_code 9 = .ok (.invokespecial 9, 3) := by decide +kernel
theorem d3_12 : decode prog_11_method_1_code 12 = .ok (.putfield 10, 3) := by decide +kernel
theorem d3_15 : decode prog_11_method_1_code 15 = .ok (.aload_n 0, 1) := by decide +kernel
theorem d3_16 : decode prog_11_method_1_code 16 = .ok (.new 16, 3) := by decide +kernel
theorem d3_19 : decode prog_11_method_1_code 19 = .ok (.dup, 1) := by decide +kernel
theorem d3_20 : decode prog_11_method_1_code 20 = .ok (.invokespecial 18, 3) := by decide +kernel
theorem d3_23 : decode prog_11_method_1_code 23 = .ok (.putfield 19, 3) := by decide +kernel
theorem d3_26 : decode prog_11_method_1_code 26 = .ok (.return_, 1) := by decide +kernel
theorem pn_3 : plainFor (⟨"com/example/lendgate/lendgate/circulation/Symbols", "<init>", "()V"⟩ : MethodName) = true := plainFor_of_name (show plainName "com/example/lendgate/lendgate/circulation/Symbols" = true by first | (simp [plainName, overriddenIn]; done) | decide +kernel)
theorem ef_rmSy (m : MethodId) (x0 : Addr) : entryFrame m #[(.ref x0)] 1 = mkF m 0 #[rv x0] [] := by first | (simp [entryFrame, mkF, argsToLocals, Value.category]; done) | rfl
set_option maxRecDepth 65536 in
set_option maxHeartbeats 40000000 in
theorem rmSy (l : Launch) (Z : State) (a0 : Array Value) (hw : ∀ d ∈ tables_1, d.before a0 Z = true) (ws : List Jvm.Cond) (a1 xD : Addr) (h0 : Heap) (n0 : Nat) (Z0 : n0 ≤ h0.size) (E_a1 : Exa Z h0 a1 "com/example/lendgate/lendgate/circulation/Symbols") (F_texts_a1 : Fld Z h0 a1 "com/example/lendgate/lendgate/circulation/Symbols" "texts" "Ljava/util/List;" .null) (F_numbers_a1 : Fld Z h0 a1 "com/example/lendgate/lendgate/circulation/Symbols" "numbers" "Ljava/util/Map;" .null) (g_a1 : n0 ≤ a1) (S_DEFAULTCAPACITY_EMPTY_ELEMENTDATA : Sta Z Z.heap "java/util/ArrayList" "DEFAULTCAPACITY_EMPTY_ELEMENTDATA" "[Ljava/lang/Object;" (.ref xD)) (O_0 : Old Z n0 h0) :
    MetFree l (⟨"com/example/lendgate/lendgate/circulation/Symbols", "<init>", "()V"⟩ : MethodName) (head1 (Jvm.Cond.code (⟨"com/example/lendgate/lendgate/circulation/Symbols", "<init>", "()V"⟩ : MethodName) prog_11_method_1_code 1 none :: ws) ({ frames := 4, cells := 2, slots := 11, locals := 50 } : Room)) (fun a U => a = #[(.ref a1)] ∧ Z.Warmed39 U.vm ∧ U.heap = h0) (fun _ _ _ _ _ => True) (fun _ U o U' => ∃ v L, o = .returned v ∧ QN a1 h0 n0 v U'.heap L ∧ FrameEnd U o U' L ({ frames := 4, cells := 2, slots := 11, locals := 50 } : Room).cells ({ frames := 4, cells := 2, slots := 11, locals := 50 } : Room).slots) := by
  refine own_enter pn_3 ?_
  intro p e s m below meth c s₁ QQ hQQ hx hby hml hown hnm hret hlk hZ X0 e0
  have hown : s.vm.findClass "com/example/lendgate/lendgate/circulation/Symbols" = some m.cls := hown
  have hml : c.maxLocals = 1 := hml
  have hret : meth.sig.returnType = none := hret
  have N0 := Fr.nil n0
  have K0 := Keep.refl h0 [a1]
  refine Goes.cast (ef_rmSy m a1) ?_
  show Goes p e below QQ (s₁.setTop (mkF m 0 #[rv a1] []))
  refine Goes.on (fun t k => XS.aloadN X0.here hx rfl (hb hby d3_0) rfl rfl k) ?_
  show Goes p e below QQ (s₁.setTop (mkF m 1 #[rv a1] [(.ref a1)]))
  obtain ⟨T1, X1, e1, st1⟩ := initO X0 hx hZ hown (hw _ (List.mem_of_getElem? (i := 19) rfl)) (hw _ (List.mem_of_getElem? (i := 20) rfl)) (hw _ (List.mem_of_getElem? (i := 21) rfl)) e0 (g := (mkF m 1 #[rv a1] [(.ref a1)])) rfl (by rw [hml]; rfl) rfl (hb hby d3_1) (by decide) (W := 0) (by show 2 * 0 + _ ≤ _; exact Nat.le_of_eq rfl) (by decide)
  refine Goes.on (fun t k => st1 t k) ?_
  show Goes p e below QQ (T1.setTop (mkF m 4 #[rv a1] []))
  refine Goes.on (fun t k => XS.aloadN X1.here hx rfl (hb hby d3_4) rfl rfl k) ?_
  show Goes p e below QQ (T1.setTop (mkF m 5 #[rv a1] [(.ref a1)]))
  obtain ⟨T2, h2, X2, e2, E2, A2, D2, -, st2⟩ := newO X1 hx hZ hown (hw _ (List.mem_of_getElem? (i := 22) rfl)) (hw _ (List.mem_of_getElem? (i := 23) rfl)) (hw _ (List.mem_of_getElem? (i := 24) rfl)) e1 (g := (mkF m 5 #[rv a1] [(.ref a1)])) rfl (hb hby d3_5) (by decide) (by decide)
  obtain ⟨b2, g2⟩ : ∃ z, z = h0.size := ⟨_, rfl⟩
  rw [← g2] at A2 D2 st2
  have sz_b2 : h0.size ≤ b2 := Nat.le_trans K0.1 (Nat.le_of_eq g2.symm)
  have g_b2 : n0 ≤ b2 := Nat.le_trans Z0 sz_b2
  have ne_a1_b2 : a1 ≠ b2 := Nat.ne_of_lt (Nat.lt_of_lt_of_le E_a1.lt (Nat.le_of_eq g2.symm))
  have E_3 := E_a1.ext E2
  have F_4 := F_texts_a1.ext E2
  have F_5 := F_numbers_a1.ext E2
  have O_6 := O_0.ext E2
  have K2 := K0.ext E2
  have X2 : Stand p l e ({ frames := 4, cells := 2, slots := 11, locals := 50 } : Room) s m #[(.ref a1)] below meth c T2 _ 1 3 := X2
  have F_7 : Fld Z h2 b2 "java/util/AbstractList" "modCount" "I" (.int 0) := D2 (Or.inl (hw _ (List.mem_of_getElem? (i := 42) rfl))) (ty := .int) (by decide)
  have F_8 : Fld Z h2 b2 "java/util/ArrayList" "elementData" "[Ljava/lang/Object;" .null := D2 (Or.inl (hw _ (List.mem_of_getElem? (i := 45) rfl))) (ty := (.array (.object "java/lang/Object"))) (by decide)
  refine Goes.on (fun t k => st2 t k) ?_
  show Goes p e below QQ (T2.setTop (mkF m 8 #[rv a1] [(.ref b2), (.ref a1)]))
  refine Goes.on (fun t k => XS.dup X2.here hx rfl (hb hby d3_8) rfl rfl k) ?_
  show Goes p e below QQ (T2.setTop (mkF m 9 #[rv a1] [(.ref b2), (.ref b2), (.ref a1)]))
  obtain ⟨_, _, ⟨T10, L10, k10, n10⟩, -, X10, ⟨Lc10, hQ10, l10, y10, z10⟩, st10⟩ := X2.specialBack hx (y := (⟨"java/util/ArrayList", "<init>", "()V"⟩ : MethodName)) rfl hown (mvT hZ (hw _ (List.mem_of_getElem? (i := 25) rfl))) (mvT hZ (hw _ (List.mem_of_getElem? (i := 26) rfl))) (mvT hZ (hw _ (List.mem_of_getElem? (i := 27) rfl))) (by decide) (backOf (W := 2) (rmAr l Z a0 hw [] b2 xD h2 n0 (Nat.le_trans Z0 K2.1) A2 F_7 F_8 g_b2 S_DEFAULTCAPACITY_EMPTY_ELEMENTDATA O_6) hZ (hw _ (List.mem_of_getElem? (i := 27) rfl)) (hw _ (List.mem_of_getElem? (i := 24) rfl)) (by decide) (by decide)) (g := (mkF m 9 #[rv a1] [(.ref b2), (.ref b2), (.ref a1)])) rfl (by rw [hml]; rfl) (Steps.refl _) (a := b2) (argsL := []) (rest := [(.ref b2), (.ref a1)]) (lenOf pd_0 rfl) rfl (by show 2 * 0 + _ ≤ _; exact Nat.le_of_eq rfl) (hb hby d3_9) (fun _ _ => ⟨rfl, e2, (by decide : 1 + 0 ≤ _), (by decide : 3 + 0 ≤ _)⟩)
  dsimp only [Pt.U, Pt.locs, Pt.cells, Pt.slots] at X10 l10 y10 z10 st10 hQ10
  have l10 := l10.symm; have y10 := y10.symm; have z10 := z10.symm; subst l10 y10 z10
  have X10 : Stand p l e ({ frames := 4, cells := 2, slots := 11, locals := 50 } : Room) s m #[(.ref a1)] below meth c T10 _ 1 3 := X10
  obtain ⟨rfl, M10, Kb9⟩ := hQ10
  have N10 := Fr.app N0 M10
  refine Goes.on (fun t k => st10.trans k) ?_
  have E_11 := E_3.keep Kb9
  have F_12 := F_4.keep Kb9 (ninS ne_a1_b2 nin0)
  have F_13 := F_5.keep Kb9 (ninS ne_a1_b2 nin0)
  have O_14 := O_6.keep Kb9 (allS g_b2 all0)
  have A2_15 := A2.keep Kb9
  have K18 := K2.trans Kb9 (allS (Or.inr sz_b2) all0)
  show Goes p e below QQ (T10.setTop (mkF m 12 #[rv a1] [(.ref b2), (.ref a1)]))
  obtain ⟨T19, h19, X19, e19, W19, st19⟩ := putF X10 hx hZ hown (host := "") (Or.inl (hw _ (List.mem_of_getElem? (i := 46) rfl))) Via.refl rfl F_12 E_11 (Or.inr ⟨(hw _ (List.mem_of_getElem? (i := 47) rfl)), rfl, hnm⟩) (hw _ (List.mem_of_getElem? (i := 14) rfl)) (ty := (.object "java/util/List")) (by decide) rfl rfl (g := (mkF m 12 #[rv a1] [(.ref b2), (.ref a1)])) rfl rfl (hb hby d3_12)
  have E_20 := E_11.wr W19
  have F_21 := F_13.other W19 (Or.inr (slot_ne (Or.inr (hw _ (List.mem_of_getElem? (i := 65) rfl))) (Or.inr (hw _ (List.mem_of_getElem? (i := 47) rfl))) (by decide) (t := (.object "java/util/Map")) (t' := (.object "java/util/List")) (by decide) (by decide)))
  have O_22 := O_14.wr W19 g_a1
  have A2_23 := A2_15.wr W19
  have K19 := K18.wr W19 (Or.inl (List.mem_of_getElem? (i := 0) rfl))
  have N19 := Fr.snoc X19 N10 g_a1
  have F_24 : Fld Z h19 a1 "com/example/lendgate/lendgate/circulation/Symbols" "texts" "Ljava/util/List;" (.ref b2) := F_12.same W19
  refine Goes.on (fun t k => st19 t k) ?_
  show Goes p e below QQ (T19.setTop (mkF m 15 #[rv a1] []))
  refine Goes.on (fun t k => XS.aloadN X19.here hx rfl (hb hby d3_15) rfl rfl k) ?_
  show Goes p e below QQ (T19.setTop (mkF m 16 #[rv a1] [(.ref a1)]))
  obtain ⟨T25, h25, X25, e25, E25, A25, D25, -, st25⟩ := newO X19 hx hZ hown (hw _ (List.mem_of_getElem? (i := 48) rfl)) (hw _ (List.mem_of_getElem? (i := 49) rfl)) (hw _ (List.mem_of_getElem? (i := 50) rfl)) e19 (g := (mkF m 16 #[rv a1] [(.ref a1)])) rfl (hb hby d3_16) (by decide) (by decide)
  obtain ⟨b25, g25⟩ : ∃ z, z = h19.size := ⟨_, rfl⟩
  rw [← g25] at A25 D25 st25
  have sz_b25 : h0.size ≤ b25 := Nat.le_trans K19.1 (Nat.le_of_eq g25.symm)
  have g_b25 : n0 ≤ b25 := Nat.le_trans Z0 sz_b25
  have ne_a1_b25 : a1 ≠ b25 := Nat.ne_of_lt (Nat.lt_of_lt_of_le E_20.lt (Nat.le_of_eq g25.symm))
  have ne_b2_b25 : b2 ≠ b25 := Nat.ne_of_lt (Nat.lt_of_lt_of_le A2_23.lt (Nat.le_of_eq g25.symm))
  have E_26 := E_20.ext E25
  have F_27 := F_24.ext E25
  have F_28 := F_21.ext E25
  have O_29 := O_22.ext E25
  have A2_30 := A2_23.ext E25
  have K25 := K19.ext E25
  have X25 : Stand p l e ({ frames := 4, cells := 2, slots := 11, locals := 50 } : Room) s m #[(.ref a1)] below meth c T25 _ 2 11 := X25
  have F_31 : Fld Z h25 b25 "java/util/HashMap" "loadFactor" "F" (.float (0 : UInt32)) := D25 (Or.inr (hw _ (List.mem_of_getElem? (i := 63) rfl))) (ty := .float) (by decide)
  refine Goes.on (fun t k => st25 t k) ?_
  show Goes p e below QQ (T25.setTop (mkF m 19 #[rv a1] [(.ref b25), (.ref a1)]))
  refine Goes.on (fun t k => XS.dup X25.here hx rfl (hb hby d3_19) rfl rfl k) ?_
  show Goes p e below QQ (T25.setTop (mkF m 20 #[rv a1] [(.ref b25), (.ref b25), (.ref a1)]))
  obtain ⟨_, _, ⟨T32, L32, k32, n32⟩, -, X32, ⟨Lc32, hQ32, l32, y32, z32⟩, st32⟩ := X25.specialBack hx (y := (⟨"java/util/HashMap", "<init>", "()V"⟩ : MethodName)) rfl hown (mvT hZ (hw _ (List.mem_of_getElem? (i := 51) rfl))) (mvT hZ (hw _ (List.mem_of_getElem? (i := 52) rfl))) (mvT hZ (hw _ (List.mem_of_getElem? (i := 53) rfl))) (by decide) (backOf (W := 2) (rmHM l Z a0 hw [] b25 h25 n0 (Nat.le_trans Z0 K25.1) A25 F_31 g_b25) hZ (hw _ (List.mem_of_getElem? (i := 53) rfl)) (hw _ (List.mem_of_getElem? (i := 50) rfl)) (by decide) (by decide)) (g := (mkF m 20 #[rv a1] [(.ref b25), (.ref b25), (.ref a1)])) rfl (by rw [hml]; rfl) (Steps.refl _) (a := b25) (argsL := []) (rest := [(.ref b25), (.ref a1)]) (lenOf pd_0 rfl) rfl (by show 2 * 0 + _ ≤ _; exact Nat.le_of_eq rfl) (hb hby d3_20) (fun _ _ => ⟨rfl, e25, (by decide : 2 + 0 ≤ _), (by decide : 11 + 0 ≤ _)⟩)
  dsimp only [Pt.U, Pt.locs, Pt.cells, Pt.slots] at X32 l32 y32 z32 st32 hQ32
  have l32 := l32.symm; have y32 := y32.symm; have z32 := z32.symm; subst l32 y32 z32
  have X32 : Stand p l e ({ frames := 4, cells := 2, slots := 11, locals := 50 } : Room) s m #[(.ref a1)] below meth c T32 _ 2 11 := X32
  obtain ⟨rfl, M32, Kh⟩ := hQ32
  have N32 := Fr.app N19 M32
  refine Goes.on (fun t k => st32.trans k) ?_
  have E_33 := E_26.keep Kh
  have F_34 := F_27.keep Kh (ninS ne_a1_b25 nin0)
  have F_35 := F_28.keep Kh (ninS ne_a1_b25 nin0)
  have O_36 := O_29.keep Kh (allS g_b25 all0)
  have A2_37 := A2_30.keep Kh
  have A25_38 := A25.keep Kh
  have K40 := K25.trans Kh (allS (Or.inr sz_b25) all0)
  show Goes p e below QQ (T32.setTop (mkF m 23 #[rv a1] [(.ref b25), (.ref a1)]))
  obtain ⟨T41, h41, X41, e41, W41, st41⟩ := putF X32 hx hZ hown (host := "") (Or.inl (hw _ (List.mem_of_getElem? (i := 64) rfl))) Via.refl rfl F_35 E_33 (Or.inr ⟨(hw _ (List.mem_of_getElem? (i := 65) rfl)), rfl, hnm⟩) (hw _ (List.mem_of_getElem? (i := 14) rfl)) (ty := (.object "java/util/Map")) (by decide) rfl rfl (g := (mkF m 23 #[rv a1] [(.ref b25), (.ref a1)])) rfl rfl (hb hby d3_23)
  have E_42 := E_33.wr W41
  have F_43 := F_34.other W41 (Or.inr (slot_ne (Or.inr (hw _ (List.mem_of_getElem? (i := 47) rfl))) (Or.inr (hw _ (List.mem_of_getElem? (i := 65) rfl))) (by decide) (t := (.object "java/util/List")) (t' := (.object "java/util/Map")) (by decide) (by decide)))
  have O_44 := O_36.wr W41 g_a1
  have A2_45 := A2_37.wr W41
  have A25_46 := A25_38.wr W41
  have K41 := K40.wr W41 (Or.inl (List.mem_of_getElem? (i := 0) rfl))
  have N41 := Fr.snoc X41 N32 g_a1
  have F_47 : Fld Z h41 a1 "com/example/lendgate/lendgate/circulation/Symbols" "numbers" "Ljava/util/Map;" (.ref b25) := F_35.same W41
  refine Goes.on (fun t k => st41 t k) ?_
  show Goes p e below QQ (T41.setTop (mkF m 26 #[rv a1] []))
  exact Goes.rV X41 hx hret hlk (hb hby d3_26) hQQ (by rw [e41]; exact ⟨rfl, N41, K41⟩) (by decide) (by decide)
theorem d10_0 : decode prog_8_method_1_code 0 = .ok (.aload_n 0, 1) := by decide +kernel
theorem d10_1 : decode prog_8_method_1_code 1 = .ok (.invokespecial 1, 3) := by decide +kernel
theorem d10_4 : decode prog_8_method_1_code 4 = .ok (.aload_n 0, 1) := by decide +kernel
theorem d10_5 : decode prog_8_method_1_code 5 = .ok (.aload_n 1, 1) := by decide +kernel
theorem d10_6 : decode prog_8_method_1_code 6 = .ok (.putfield 7, 3) := by decide +kernel
theorem d10_9 : decode prog_8_method_1_code 9 = .ok (.aload_n 0, 1) := by decide +kernel
theorem d10_10 : decode prog_8_method_1_code 10 = .ok (.aload_n 2, 1) := by decide +kernel
theorem d10_11 : decode prog_8_method_1_code 11 = .ok (.putfield 13, 3) := by decide +kernel
theorem d10_14 : decode prog_8_method_1_code 14 = .ok (.aload_n 0, 1) := by decide +kernel
theorem d10_15 : decode prog_8_method_1_code 15 = .ok (.iload_n 3, 1) := by decide +kernel
theorem d10_16 : decode prog_8_method_1_code 16 = .ok (.putfield 17, 3) := by decide +kernel
theorem d10_19 : decode prog_8_method_1_code 19 = .ok (.return_, 1) := by decide +kernel
theorem pn_10 : plainFor (⟨"com/example/lendgate/lendgate/circulation/Decoder", "<init>", "(Lcom/example/lendgate/lendgate/circulation/Symbols;[BI)V"⟩ : MethodName) = true := plainFor_of_name (show plainName "com/example/lendgate/lendgate/circulation/Decoder" = true by first | (simp [plainName, overriddenIn]; done) | decide +kernel)
theorem ef_rmDi (m : MethodId) (x0 : Addr) (x1 : Addr) (x2 : Addr) (x3 : Int32) : entryFrame m #[(.ref x0), (.ref x1), (.ref x2), (.int x3)] 4 = mkF m 0 #[rv x0, rv x1, rv x2, iv x3] [] := by first | (simp [entryFrame, mkF, argsToLocals, Value.category]; done) | rfl
set_option maxRecDepth 65536 in
set_option maxHeartbeats 40000000 in
theorem rmDi (l : Launch) (Z : State) (a0 : Array Value) (hw : ∀ d ∈ tables_1, d.before a0 Z = true) (ws : List Jvm.Cond) (a1 a2 a3 : Addr) (p3 : Int32) (h0 : Heap) (n0 : Nat) (Z0 : n0 ≤ h0.size) (E_a1 : Exa Z h0 a1 "com/example/lendgate/lendgate/circulation/Decoder") (F_symbols_a1 : Fld Z h0 a1 "com/example/lendgate/lendgate/circulation/Decoder" "symbols" "Lcom/example/lendgate/lendgate/circulation/Symbols;" .null) (F_bytes_a1 : Fld Z h0 a1 "com/example/lendgate/lendgate/circulation/Decoder" "bytes" "[B" .null) (F_position_a1 : Fld Z h0 a1 "com/example/lendgate/lendgate/circulation/Decoder" "position" "I" (.int 0)) (g_a1 : n0 ≤ a1) :
    MetFree l (⟨"com/example/lendgate/lendgate/circulation/Decoder", "<init>", "(Lcom/example/lendgate/lendgate/circulation/Symbols;[BI)V"⟩ : MethodName) (head1 (Jvm.Cond.code (⟨"com/example/lendgate/lendgate/circulation/Decoder", "<init>", "(Lcom/example/lendgate/lendgate/circulation/Symbols;[BI)V"⟩ : MethodName) prog_8_method_1_code 4 none :: ws) ({ frames := 1, cells := 0, slots := 0, locals := 12 } : Room)) (fun a U => a = #[(.ref a1), (.ref a2), (.ref a3), (.int p3)] ∧ Z.Warmed39 U.vm ∧ U.heap = h0) (fun _ _ _ _ _ => True) (fun _ U o U' => ∃ v L, o = .returned v ∧ QI Z a1 a3 p3 h0 n0 v U'.heap L ∧ FrameEnd U o U' L ({ frames := 1, cells := 0, slots := 0, locals := 12 } : Room).cells ({ frames := 1, cells := 0, slots := 0, locals := 12 } : Room).slots) := by
  refine own_enter pn_10 ?_
  intro p e s m below meth c s₁ QQ hQQ hx hby hml hown hnm hret hlk hZ X0 e0
  have hown : s.vm.findClass "com/example/lendgate/lendgate/circulation/Decoder" = some m.cls := hown
  have hml : c.maxLocals = 4 := hml
  have hret : meth.sig.returnType = none := hret
  have N0 := Fr.nil n0
  have K0 := Keep.refl h0 [a1]
  refine Goes.cast (ef_rmDi m a1 a2 a3 p3) ?_
  show Goes p e below QQ (s₁.setTop (mkF m 0 #[rv a1, rv a2, rv a3, iv p3] []))
  refine Goes.on (fun t k => XS.aloadN X0.here hx rfl (hb hby d10_0) rfl rfl k) ?_
  show Goes p e below QQ (s₁.setTop (mkF m 1 #[rv a1, rv a2, rv a3, iv p3] [(.ref a1)]))
  obtain ⟨T1, X1, e1, st1⟩ := initO X0 hx hZ hown (hw _ (List.mem_of_getElem? (i := 69) rfl)) (hw _ (List.mem_of_getElem? (i := 20) rfl)) (hw _ (List.mem_of_getElem? (i := 21) rfl)) e0 (g := (mkF m 1 #[rv a1, rv a2, rv a3, iv p3] [(.ref a1)])) rfl (by rw [hml]; rfl) rfl (hb hby d10_1) (by decide) (W := 0) (by show 2 * 0 + _ ≤ _; exact Nat.le_of_eq rfl) (by decide)
  refine Goes.on (fun t k => st1 t k) ?_
  show Goes p e below QQ (T1.setTop (mkF m 4 #[rv a1, rv a2, rv a3, iv p3] []))
  refine Goes.on (fun t k => XS.aloadN X1.here hx rfl (hb hby d10_4) rfl rfl k) ?_
  show Goes p e below QQ (T1.setTop (mkF m 5 #[rv a1, rv a2, rv a3, iv p3] [(.ref a1)]))
  refine Goes.on (fun t k => XS.aloadN X1.here hx rfl (hb hby d10_5) rfl rfl k) ?_
  show Goes p e below QQ (T1.setTop (mkF m 6 #[rv a1, rv a2, rv a3, iv p3] [(.ref a2), (.ref a1)]))
  obtain ⟨T2, h2, X2, e2, W2, st2⟩ := putF X1 hx hZ hown (host := "") (Or.inl (hw _ (List.mem_of_getElem? (i := 70) rfl))) Via.refl e1 F_symbols_a1 E_a1 (Or.inr ⟨(hw _ (List.mem_of_getElem? (i := 71) rfl)), rfl, hnm⟩) (hw _ (List.mem_of_getElem? (i := 11) rfl)) (ty := (.object "com/example/lendgate/lendgate/circulation/Symbols")) (by decide) rfl rfl (g := (mkF m 6 #[rv a1, rv a2, rv a3, iv p3] [(.ref a2), (.ref a1)])) rfl rfl (hb hby d10_6)
  have E_3 := E_a1.wr W2
  have F_4 := F_bytes_a1.other W2 (Or.inr (slot_ne (Or.inr (hw _ (List.mem_of_getElem? (i := 73) rfl))) (Or.inr (hw _ (List.mem_of_getElem? (i := 71) rfl))) (by decide) (t := (.array .byte)) (t' := (.object "com/example/lendgate/lendgate/circulation/Symbols")) (by decide) (by decide)))
  have F_5 := F_position_a1.other W2 (Or.inr (slot_ne (Or.inl (hw _ (List.mem_of_getElem? (i := 75) rfl))) (Or.inr (hw _ (List.mem_of_getElem? (i := 71) rfl))) (by decide) (t := .int) (t' := (.object "com/example/lendgate/lendgate/circulation/Symbols")) (by decide) (by decide)))
  have K2 := K0.wr W2 (Or.inl (List.mem_of_getElem? (i := 0) rfl))
  have N2 := Fr.snoc X2 N0 g_a1
  have F_6 : Fld Z h2 a1 "com/example/lendgate/lendgate/circulation/Decoder" "symbols" "Lcom/example/lendgate/lendgate/circulation/Symbols;" (.ref a2) := F_symbols_a1.same W2
  refine Goes.on (fun t k => st2 t k) ?_
  show Goes p e below QQ (T2.setTop (mkF m 9 #[rv a1, rv a2, rv a3, iv p3] []))
  refine Goes.on (fun t k => XS.aloadN X2.here hx rfl (hb hby d10_9) rfl rfl k) ?_
  show Goes p e below QQ (T2.setTop (mkF m 10 #[rv a1, rv a2, rv a3, iv p3] [(.ref a1)]))
  refine Goes.on (fun t k => XS.aloadN X2.here hx rfl (hb hby d10_10) rfl rfl k) ?_
  show Goes p e below QQ (T2.setTop (mkF m 11 #[rv a1, rv a2, rv a3, iv p3] [(.ref a3), (.ref a1)]))
  obtain ⟨T7, h7, X7, e7, W7, st7⟩ := putF X2 hx hZ hown (host := "") (Or.inl (hw _ (List.mem_of_getElem? (i := 72) rfl))) Via.refl e2 F_4 E_3 (Or.inr ⟨(hw _ (List.mem_of_getElem? (i := 73) rfl)), rfl, hnm⟩) (hw _ (List.mem_of_getElem? (i := 11) rfl)) (ty := (.array .byte)) (by decide) rfl rfl (g := (mkF m 11 #[rv a1, rv a2, rv a3, iv p3] [(.ref a3), (.ref a1)])) rfl rfl (hb hby d10_11)
  have E_8 := E_3.wr W7
  have F_9 := F_6.other W7 (Or.inr (slot_ne (Or.inr (hw _ (List.mem_of_getElem? (i := 71) rfl))) (Or.inr (hw _ (List.mem_of_getElem? (i := 73) rfl))) (by decide) (t := (.object "com/example/lendgate/lendgate/circulation/Symbols")) (t' := (.array .byte)) (by decide) (by decide)))
  have F_10 := F_5.other W7 (Or.inr (slot_ne (Or.inl (hw _ (List.mem_of_getElem? (i := 75) rfl))) (Or.inr (hw _ (List.mem_of_getElem? (i := 73) rfl))) (by decide) (t := .int) (t' := (.array .byte)) (by decide) (by decide)))
  have K7 := K2.wr W7 (Or.inl (List.mem_of_getElem? (i := 0) rfl))
  have N7 := Fr.snoc X7 N2 g_a1
  have F_11 : Fld Z h7 a1 "com/example/lendgate/lendgate/circulation/Decoder" "bytes" "[B" (.ref a3) := F_4.same W7
  refine Goes.on (fun t k => st7 t k) ?_
  show Goes p e below QQ (T7.setTop (mkF m 14 #[rv a1, rv a2, rv a3, iv p3] []))
  refine Goes.on (fun t k => XS.aloadN X7.here hx rfl (hb hby d10_14) rfl rfl k) ?_
  show Goes p e below QQ (T7.setTop (mkF m 15 #[rv a1, rv a2, rv a3, iv p3] [(.ref a1)]))
  refine Goes.on (fun t k => XS.iloadN X7.here hx rfl (hb hby d10_15) rfl k) ?_
  show Goes p e below QQ (T7.setTop (mkF m 16 #[rv a1, rv a2, rv a3, iv p3] [(.int p3), (.ref a1)]))
  obtain ⟨T12, h12, X12, e12, W12, st12⟩ := putF X7 hx hZ hown (host := "") (Or.inl (hw _ (List.mem_of_getElem? (i := 74) rfl))) Via.refl e7 F_10 E_8 (Or.inl (hw _ (List.mem_of_getElem? (i := 75) rfl))) (hw _ (List.mem_of_getElem? (i := 11) rfl)) (ty := .int) (by decide) rfl rfl (g := (mkF m 16 #[rv a1, rv a2, rv a3, iv p3] [(.int p3), (.ref a1)])) rfl rfl (hb hby d10_16)
  have E_13 := E_8.wr W12
  have F_14 := F_9.other W12 (Or.inr (slot_ne (Or.inr (hw _ (List.mem_of_getElem? (i := 71) rfl))) (Or.inl (hw _ (List.mem_of_getElem? (i := 75) rfl))) (by decide) (t := (.object "com/example/lendgate/lendgate/circulation/Symbols")) (t' := .int) (by decide) (by decide)))
  have F_15 := F_11.other W12 (Or.inr (slot_ne (Or.inr (hw _ (List.mem_of_getElem? (i := 73) rfl))) (Or.inl (hw _ (List.mem_of_getElem? (i := 75) rfl))) (by decide) (t := (.array .byte)) (t' := .int) (by decide) (by decide)))
  have K12 := K7.wr W12 (Or.inl (List.mem_of_getElem? (i := 0) rfl))
  have N12 := Fr.snoc X12 N7 g_a1
  have F_16 : Fld Z h12 a1 "com/example/lendgate/lendgate/circulation/Decoder" "position" "I" (.int p3) := F_10.same W12
  refine Goes.on (fun t k => st12 t k) ?_
  show Goes p e below QQ (T12.setTop (mkF m 19 #[rv a1, rv a2, rv a3, iv p3] []))
  exact Goes.rV X12 hx hret hlk (hb hby d10_19) hQQ (by rw [e12]; exact ⟨rfl, N12, K12, F_15, F_16⟩) (by decide) (by decide)
theorem d12_0 : decode prog_8_method_8_code 0 = .ok (.aload_n 0, 1) := by decide +kernel
theorem d12_1 : decode prog_8_method_8_code 1 = .ok (.getfield 17, 3) := by decide +kernel
theorem d12_4 : decode prog_8_method_8_code 4 = .ok (.ireturn, 1) := by decide +kernel
theorem pn_12 : plainFor (⟨"com/example/lendgate/lendgate/circulation/Decoder", "position", "()I"⟩ : MethodName) = true := plainFor_of_name (show plainName "com/example/lendgate/lendgate/circulation/Decoder" = true by first | (simp [plainName, overriddenIn]; done) | decide +kernel)
theorem ef_rmPo (m : MethodId) (x0 : Addr) : entryFrame m #[(.ref x0)] 1 = mkF m 0 #[rv x0] [] := by first | (simp [entryFrame, mkF, argsToLocals, Value.category]; done) | rfl
set_option maxRecDepth 65536 in
set_option maxHeartbeats 40000000 in
theorem rmPo (l : Launch) (Z : State) (a0 : Array Value) (hw : ∀ d ∈ tables_1, d.before a0 Z = true) (ws : List Jvm.Cond) (a1 : Addr) (p1 : Int32) (h0 : Heap) (n0 : Nat) (Z0 : n0 ≤ h0.size) (F_position_a1 : Fld Z h0 a1 "com/example/lendgate/lendgate/circulation/Decoder" "position" "I" (.int p1)) :
    MetFree l (⟨"com/example/lendgate/lendgate/circulation/Decoder", "position", "()I"⟩ : MethodName) (head1 (Jvm.Cond.code (⟨"com/example/lendgate/lendgate/circulation/Decoder", "position", "()I"⟩ : MethodName) prog_8_method_8_code 1 (some .int) :: ws) ({ frames := 0, cells := 0, slots := 0, locals := 0 } : Room)) (fun a U => a = #[(.ref a1)] ∧ Z.Warmed39 U.vm ∧ U.heap = h0) (fun _ _ _ _ _ => True) (fun _ U o U' => ∃ v L, o = .returned v ∧ QP (.int p1) h0 n0 v U'.heap L ∧ FrameEnd U o U' L ({ frames := 0, cells := 0, slots := 0, locals := 0 } : Room).cells ({ frames := 0, cells := 0, slots := 0, locals := 0 } : Room).slots) := by
  refine own_enter pn_12 ?_
  intro p e s m below meth c s₁ QQ hQQ hx hby hml hown hnm hret hlk hZ X0 e0
  have hown : s.vm.findClass "com/example/lendgate/lendgate/circulation/Decoder" = some m.cls := hown
  have hml : c.maxLocals = 1 := hml
  have hret : meth.sig.returnType = some .int := hret
  have N0 := Fr.nil n0
  have K0 := Keep.refl h0 []
  refine Goes.cast (ef_rmPo m a1) ?_
  show Goes p e below QQ (s₁.setTop (mkF m 0 #[rv a1] []))
  refine Goes.on (fun t k => XS.aloadN X0.here hx rfl (hb hby d12_0) rfl rfl k) ?_
  show Goes p e below QQ (s₁.setTop (mkF m 1 #[rv a1] [(.ref a1)]))
  obtain ⟨T1, X1, e1, st1⟩ := getF X0 hx hZ hown (host := "") (Or.inl (hw _ (List.mem_of_getElem? (i := 74) rfl))) Via.refl e0 F_position_a1 (g := (mkF m 1 #[rv a1] [(.ref a1)])) rfl rfl (hb hby d12_1)
  refine Goes.on (fun t k => st1 t k) ?_
  show Goes p e below QQ (T1.setTop (mkF m 4 #[rv a1] [(.int p1)]))
  exact Goes.rI X1 hx hret hlk (hb hby d12_4) hQQ ⟨rfl, N0, e1⟩ (by decide) (by decide)
def accF (bs : Nat → Int32) : Nat → Int64
  | 0 => 0
  | i + 1 => accF bs i ||| (((bs i).toInt64 &&& (127 : Int64)) <<< ((Int32.ofNat (7 * i)) &&& 0x3f).toInt64)
/-- the i-th byte, at the place j -/
def Byt (vs : List Value) (tn i : Nat) (j xx : Int32) : Prop := i < tn → (¬ j < 0 ∧ j < (14 : Int32)) ∧ vs.getD j.toNatClampNeg (.int (0 : Int32)) = .int xx ∧ (i + 1 < tn → xx < 0) ∧ (i + 1 = tn → ¬ xx < 0)
def QC (Z : State) (a1 : Addr) (bs : Nat → Int32) (tn : Nat) (p1 : Int32) (h0 : Heap) (n0 : Nat) (v : Option Value) (h : Heap) (L : List Loc) : Prop := v = some (.long (accF bs tn)) ∧ Fr n0 L ∧ Keep h0 h [a1] ∧ Fld Z h a1 "com/example/lendgate/lendgate/circulation/Decoder" "position" "I" (.int (p1 + Int32.ofNat tn))
theorem own_acc0 (bs : Nat → Int32) : ((accF bs 0) ||| (((bs 0).toInt64 &&& (127 : Int64)) <<< ((0 : Int32) &&& 0x3f).toInt64)) = accF bs 1 := rfl
theorem own_acc1 (bs : Nat → Int32) : ((accF bs 1) ||| (((bs 1).toInt64 &&& (127 : Int64)) <<< ((7 : Int32) &&& 0x3f).toInt64)) = accF bs 2 := rfl
theorem own_acc2 (bs : Nat → Int32) : ((accF bs 2) ||| (((bs 2).toInt64 &&& (127 : Int64)) <<< ((14 : Int32) &&& 0x3f).toInt64)) = accF bs 3 := rfl
theorem own_acc3 (bs : Nat → Int32) : ((accF bs 3) ||| (((bs 3).toInt64 &&& (127 : Int64)) <<< ((21 : Int32) &&& 0x3f).toInt64)) = accF bs 4 := rfl
theorem own_acc4 (bs : Nat → Int32) : ((accF bs 4) ||| (((bs 4).toInt64 &&& (127 : Int64)) <<< ((28 : Int32) &&& 0x3f).toInt64)) = accF bs 5 := rfl
theorem own_acc5 (bs : Nat → Int32) : ((accF bs 5) ||| (((bs 5).toInt64 &&& (127 : Int64)) <<< ((35 : Int32) &&& 0x3f).toInt64)) = accF bs 6 := rfl
theorem own_acc6 (bs : Nat → Int32) : ((accF bs 6) ||| (((bs 6).toInt64 &&& (127 : Int64)) <<< ((42 : Int32) &&& 0x3f).toInt64)) = accF bs 7 := rfl
theorem own_acc7 (bs : Nat → Int32) : ((accF bs 7) ||| (((bs 7).toInt64 &&& (127 : Int64)) <<< ((49 : Int32) &&& 0x3f).toInt64)) = accF bs 8 := rfl
theorem own_acc8 (bs : Nat → Int32) : ((accF bs 8) ||| (((bs 8).toInt64 &&& (127 : Int64)) <<< ((56 : Int32) &&& 0x3f).toInt64)) = accF bs 9 := rfl
theorem own_acc9 (bs : Nat → Int32) : ((accF bs 9) ||| (((bs 9).toInt64 &&& (127 : Int64)) <<< ((63 : Int32) &&& 0x3f).toInt64)) = accF bs 10 := rfl
theorem own_accz (bs : Nat → Int32) : (0 : Int64) = accF bs 0 := rfl
theorem d11_0 : decode prog_8_method_7_code 0 = .ok (.lconst 0, 1) := by decide +kernel
theorem d11_1 : decode prog_8_method_7_code 1 = .ok (.lstore_n 1, 1) := by decide +kernel
theorem d11_2 : decode prog_8_method_7_code 2 = .ok (.iconst 0, 1) := by decide +kernel
theorem d11_3 : decode prog_8_method_7_code 3 = .ok (.istore_n 3, 1) := by decide +kernel
theorem d11_4 : decode prog_8_method_7_code 4 = .ok (.iload_n 3, 1) := by decide +kernel
theorem d11_5 : decode prog_8_method_7_code 5 = .ok (.bipush 64, 2) := by decide +kernel
theorem d11_7 : decode prog_8_method_7_code 7 = .ok (.if_icmp .ge 46, 3) := by decide +kernel
theorem d11_10 : decode prog_8_method_7_code 10 = .ok (.aload_n 0, 1) := by decide +kernel
theorem d11_11 : decode prog_8_method_7_code 11 = .ok (.getfield 13, 3) := by decide +kernel
theorem d11_14 : decode prog_8_method_7_code 14 = .ok (.aload_n 0, 1) := by decide +kernel
theorem d11_15 : decode prog_8_method_7_code 15 = .ok (.dup, 1) := by decide +kernel
theorem d11_16 : decode prog_8_method_7_code 16 = .ok (.getfield 17, 3) := by decide +kernel
theorem d11_19 : decode prog_8_method_7_code 19 = .ok (.dup_x1, 1) := by decide +kernel
theorem d11_20 : decode prog_8_method_7_code 20 = .ok (.iconst 1, 1) := by decide +kernel
theorem d11_21 : decode prog_8_method_7_code 21 = .ok (.iadd, 1) := by decide +kernel
theorem d11_22 : decode prog_8_method_7_code 22 = .ok (.putfield 17, 3) := by decide +kernel
theorem d11_25 : decode prog_8_method_7_code 25 = .ok (.baload, 1) := by decide +kernel
theorem d11_26 : decode prog_8_method_7_code 26 = .ok (.istore 4, 2) := by decide +kernel
theorem d11_28 : decode prog_8_method_7_code 28 = .ok (.lload_n 1, 1) := by decide +kernel
theorem d11_29 : decode prog_8_method_7_code 29 = .ok (.iload 4, 2) := by decide +kernel
theorem d11_31 : decode prog_8_method_7_code 31 = .ok (.i2l, 1) := by decide +kernel
theorem d11_32 : decode prog_8_method_7_code 32 = .ok (.ldc2_w 57, 3) := by decide +kernel
theorem d11_35 : decode prog_8_method_7_code 35 = .ok (.land, 1) := by decide +kernel
theorem d11_36 : decode prog_8_method_7_code 36 = .ok (.iload_n 3, 1) := by decide +kernel
theorem d11_37 : decode prog_8_method_7_code 37 = .ok (.lshl, 1) := by decide +kernel
theorem d11_38 : decode prog_8_method_7_code 38 = .ok (.lor, 1) := by decide +kernel
theorem d11_39 : decode prog_8_method_7_code 39 = .ok (.lstore_n 1, 1) := by decide +kernel
theorem d11_40 : decode prog_8_method_7_code 40 = .ok (.iload 4, 2) := by decide +kernel
theorem d11_42 : decode prog_8_method_7_code 42 = .ok (.ifCond .lt 5, 3) := by decide +kernel
theorem d11_45 : decode prog_8_method_7_code 45 = .ok (.lload_n 1, 1) := by decide +kernel
theorem d11_46 : decode prog_8_method_7_code 46 = .ok (.lreturn, 1) := by decide +kernel
theorem d11_47 : decode prog_8_method_7_code 47 = .ok (.iinc 3 7, 3) := by decide +kernel
theorem d11_50 : decode prog_8_method_7_code 50 = .ok (.goto (-46), 3) := by decide +kernel
theorem d11_53 : decode prog_8_method_7_code 53 = .ok (.new 59, 3) := by decide +kernel
theorem d11_56 : decode prog_8_method_7_code 56 = .ok (.dup, 1) := by decide +kernel
theorem d11_57 : decode prog_8_method_7_code 57 = .ok (.aload_n 0, 1) := by decide +kernel
theorem d11_58 : decode prog_8_method_7_code 58 = .ok (.getfield 17, 3) := by decide +kernel
theorem d11_61 : decode prog_8_method_7_code 61 = .ok (.iconst 1, 1) := by decide +kernel
theorem d11_62 : decode prog_8_method_7_code 62 = .ok (.isub, 1) := by decide +kernel
theorem d11_68 : decode prog_8_method_7_code 68 = .ok (.invokespecial 64, 3) := by decide +kernel
theorem d11_71 : decode prog_8_method_7_code 71 = .ok (.athrow, 1) := by decide +kernel
theorem pn_11 : plainFor (⟨"com/example/lendgate/lendgate/circulation/Decoder", "count", "()J"⟩ : MethodName) = true := plainFor_of_name (show plainName "com/example/lendgate/lendgate/circulation/Decoder" = true by first | (simp [plainName, overriddenIn]; done) | decide +kernel)
theorem ef_rmCo (m : MethodId) (x0 : Addr) : entryFrame m #[(.ref x0)] 5 = mkF m 0 #[rv x0, .unset, .unset, .unset, .unset] [] := by first | (simp [entryFrame, mkF, argsToLocals, Value.category]; done) | rfl
theorem own_add (x1 y1 z1 w1 : Int32) (h : y1 + z1 = w1) : (x1 + y1) + z1 = x1 + w1 := by rw [Int32.add_assoc, h]
set_option maxRecDepth 65536 in
set_option maxHeartbeats 40000000 in
theorem rmCo (l : Launch) (Z : State) (a0 : Array Value) (hw : ∀ d ∈ tables_1, d.before a0 Z = true) (ws : List Jvm.Cond) (a1 a2 : Addr) (p1 : Int32) (kk : ClassId) (vs : List Value) (bs : Nat → Int32) (tn : Nat) (h0 : Heap) (n0 : Nat) (Z0 : n0 ≤ h0.size) (E_a1 : Exa Z h0 a1 "com/example/lendgate/lendgate/circulation/Decoder") (F_bytes_a1 : Fld Z h0 a1 "com/example/lendgate/lendgate/circulation/Decoder" "bytes" "[B" (.ref a2)) (F_position_a1 : Fld Z h0 a1 "com/example/lendgate/lendgate/circulation/Decoder" "position" "I" (.int p1)) (V_a2 : Arv Z h0 a2 kk .byte (14 : Int32) vs (.int 0)) (g_a1 : n0 ≤ a1) (ne_a2_a1 : a2 ≠ a1) (ht1 : 1 ≤ tn) (ht2 : tn ≤ 10) (B0 : Byt vs tn 0 p1 (bs 0)) (B1 : Byt vs tn 1 (p1 + (1 : Int32)) (bs 1)) (B2 : Byt vs tn 2 (p1 + (2 : Int32)) (bs 2)) (B3 : Byt vs tn 3 (p1 + (3 : Int32)) (bs 3)) (B4 : Byt vs tn 4 (p1 + (4 : Int32)) (bs 4)) (B5 : Byt vs tn 5 (p1 + (5 : Int32)) (bs 5)) (B6 : Byt vs tn 6 (p1 + (6 : Int32)) (bs 6)) (B7 : Byt vs tn 7 (p1 + (7 : Int32)) (bs 7)) (B8 : Byt vs tn 8 (p1 + (8 : Int32)) (bs 8)) (B9 : Byt vs tn 9 (p1 + (9 : Int32)) (bs 9)) :
    MetFree l (⟨"com/example/lendgate/lendgate/circulation/Decoder", "count", "()J"⟩ : MethodName) (head1 (Jvm.Cond.code (⟨"com/example/lendgate/lendgate/circulation/Decoder", "count", "()J"⟩ : MethodName) prog_8_method_7_code 5 (some .long) :: ws) ({ frames := 0, cells := 0, slots := 0, locals := 0 } : Room)) (fun a U => a = #[(.ref a1)] ∧ Z.Warmed39 U.vm ∧ U.heap = h0) (fun _ _ _ _ _ => True) (fun _ U o U' => ∃ v L, o = .returned v ∧ QC Z a1 bs tn p1 h0 n0 v U'.heap L ∧ FrameEnd U o U' L ({ frames := 0, cells := 0, slots := 0, locals := 0 } : Room).cells ({ frames := 0, cells := 0, slots := 0, locals := 0 } : Room).slots) := by
  refine own_enter pn_11 ?_
  intro p e s m below meth c s₁ QQ hQQ hx hby hml hown hnm hret hlk hZ X0 e0
  have hown : s.vm.findClass "com/example/lendgate/lendgate/circulation/Decoder" = some m.cls := hown
  have hml : c.maxLocals = 5 := hml
  have hret : meth.sig.returnType = some .long := hret
  have N0 := Fr.nil n0
  have K0 := Keep.refl h0 [a1]
  refine Goes.cast (ef_rmCo m a1) ?_
  show Goes p e below QQ (s₁.setTop (mkF m 0 #[rv a1, .unset, .unset, .unset, .unset] []))
  refine Goes.on (fun t k => XS.lconst X0.here hx rfl (hb hby d11_0) k) ?_
  show Goes p e below QQ (s₁.setTop (mkF m 1 #[rv a1, .unset, .unset, .unset, .unset] [(.long (0 : Int64))]))
  refine Goes.on (fun t k => XS.lstoreN X0.here hx rfl (hb hby d11_1) rfl (l' := #[rv a1, .val (.long (0 : Int64)), .second, .unset, .unset]) rfl k) ?_
  show Goes p e below QQ (s₁.setTop (mkF m 2 #[rv a1, .val (.long (0 : Int64)), .second, .unset, .unset] []))
  refine Goes.on (fun t k => XS.iconst X0.here hx rfl (hb hby d11_2) k) ?_
  show Goes p e below QQ (s₁.setTop (mkF m 3 #[rv a1, .val (.long (0 : Int64)), .second, .unset, .unset] [(.int 0)]))
  refine Goes.on (fun t k => XS.istoreN X0.here hx rfl (hb hby d11_3) rfl (l' := #[rv a1, .val (.long (0 : Int64)), .second, iv 0, .unset]) rfl k) ?_
  show Goes p e below QQ (s₁.setTop (mkF m 4 #[rv a1, .val (.long (0 : Int64)), .second, iv 0, .unset] []))
  rw [own_accz bs]
  show Goes p e below QQ (s₁.setTop (mkF m 4 #[rv a1, .val (.long (accF bs 0)), .second, iv 0, .unset] []))
  refine Goes.on (fun t k => XS.iloadN X0.here hx rfl (hb hby d11_4) rfl k) ?_
  show Goes p e below QQ (s₁.setTop (mkF m 5 #[rv a1, .val (.long (accF bs 0)), .second, iv 0, .unset] [(.int 0)]))
  refine Goes.on (fun t k => XS.bipush X0.here hx rfl (hb hby d11_5) k) ?_
  show Goes p e below QQ (s₁.setTop (mkF m 7 #[rv a1, .val (.long (accF bs 0)), .second, iv 0, .unset] [(.int 64), (.int 0)]))
  refine Goes.on (fun t k => XS.icmpNo X0.here hx rfl (hb hby d11_7) rfl (tlt (by decide)).2.1 k) ?_
  show Goes p e below QQ (s₁.setTop (mkF m 10 #[rv a1, .val (.long (accF bs 0)), .second, iv 0, .unset] []))
  have hi0 : 0 < tn := by omega
  obtain ⟨I0, G0, N0x, R0x⟩ := B0 hi0
  refine Goes.on (fun t k => XS.aloadN X0.here hx rfl (hb hby d11_10) rfl rfl k) ?_
  show Goes p e below QQ (s₁.setTop (mkF m 11 #[rv a1, .val (.long (accF bs 0)), .second, iv 0, .unset] [(.ref a1)]))
  obtain ⟨T1, X1, e1, st1⟩ := getF X0 hx hZ hown (host := "") (Or.inl (hw _ (List.mem_of_getElem? (i := 72) rfl))) Via.refl e0 F_bytes_a1 (g := (mkF m 11 #[rv a1, .val (.long (accF bs 0)), .second, iv 0, .unset] [(.ref a1)])) rfl rfl (hb hby d11_11)
  refine Goes.on (fun t k => st1 t k) ?_
  show Goes p e below QQ (T1.setTop (mkF m 14 #[rv a1, .val (.long (accF bs 0)), .second, iv 0, .unset] [(.ref a2)]))
  refine Goes.on (fun t k => XS.aloadN X1.here hx rfl (hb hby d11_14) rfl rfl k) ?_
  show Goes p e below QQ (T1.setTop (mkF m 15 #[rv a1, .val (.long (accF bs 0)), .second, iv 0, .unset] [(.ref a1), (.ref a2)]))
  refine Goes.on (fun t k => XS.dup X1.here hx rfl (hb hby d11_15) rfl rfl k) ?_
  show Goes p e below QQ (T1.setTop (mkF m 16 #[rv a1, .val (.long (accF bs 0)), .second, iv 0, .unset] [(.ref a1), (.ref a1), (.ref a2)]))
  obtain ⟨T2, X2, e2, st2⟩ := getF X1 hx hZ hown (host := "") (Or.inl (hw _ (List.mem_of_getElem? (i := 74) rfl))) Via.refl e1 F_position_a1 (g := (mkF m 16 #[rv a1, .val (.long (accF bs 0)), .second, iv 0, .unset] [(.ref a1), (.ref a1), (.ref a2)])) rfl rfl (hb hby d11_16)
  refine Goes.on (fun t k => st2 t k) ?_
  show Goes p e below QQ (T2.setTop (mkF m 19 #[rv a1, .val (.long (accF bs 0)), .second, iv 0, .unset] [(.int p1), (.ref a1), (.ref a2)]))
  refine Goes.on (fun t k => XS.dupX1 X2.here hx rfl (hb hby d11_19) rfl rfl rfl k) ?_
  show Goes p e below QQ (T2.setTop (mkF m 20 #[rv a1, .val (.long (accF bs 0)), .second, iv 0, .unset] [(.int p1), (.ref a1), (.int p1), (.ref a2)]))
  refine Goes.on (fun t k => XS.iconst X2.here hx rfl (hb hby d11_20) k) ?_
  show Goes p e below QQ (T2.setTop (mkF m 21 #[rv a1, .val (.long (accF bs 0)), .second, iv 0, .unset] [(.int 1), (.int p1), (.ref a1), (.int p1), (.ref a2)]))
  refine Goes.on (fun t k => XS.iadd X2.here hx rfl (hb hby d11_21) rfl k) ?_
  show Goes p e below QQ (T2.setTop (mkF m 22 #[rv a1, .val (.long (accF bs 0)), .second, iv 0, .unset] [(.int (p1 + (1 : Int32))), (.ref a1), (.int p1), (.ref a2)]))
  obtain ⟨T3, h3, X3, e3, W3, st3⟩ := putF X2 hx hZ hown (host := "") (Or.inl (hw _ (List.mem_of_getElem? (i := 74) rfl))) Via.refl e2 F_position_a1 E_a1 (Or.inl (hw _ (List.mem_of_getElem? (i := 75) rfl))) (hw _ (List.mem_of_getElem? (i := 11) rfl)) (ty := .int) (by decide) rfl rfl (g := (mkF m 22 #[rv a1, .val (.long (accF bs 0)), .second, iv 0, .unset] [(.int (p1 + (1 : Int32))), (.ref a1), (.int p1), (.ref a2)])) rfl rfl (hb hby d11_22)
  have E_4 := E_a1.wr W3
  have F_5 := F_bytes_a1.other W3 (Or.inr (slot_ne (Or.inr (hw _ (List.mem_of_getElem? (i := 73) rfl))) (Or.inl (hw _ (List.mem_of_getElem? (i := 75) rfl))) (by decide) (t := (.array .byte)) (t' := .int) (by decide) (by decide)))
  have V_6 := V_a2.other W3 ne_a2_a1
  have K3 := K0.wr W3 (Or.inl (List.mem_of_getElem? (i := 0) rfl))
  have N3 := Fr.snoc X3 N0 g_a1
  have F_7 : Fld Z h3 a1 "com/example/lendgate/lendgate/circulation/Decoder" "position" "I" (.int (p1 + (1 : Int32))) := F_position_a1.same W3
  refine Goes.on (fun t k => st3 t k) ?_
  show Goes p e below QQ (T3.setTop (mkF m 25 #[rv a1, .val (.long (accF bs 0)), .second, iv 0, .unset] [(.int p1), (.ref a2)]))
  obtain ⟨cl8, Ar8, aq8, aS8, aN8, aH8, aG8⟩ := id V_6
  have hin8 := inb_of (j := p1) aS8 I0
  have hat8 := Has.at (v := (.int (bs 0))) aH8 hin8 G0
  refine Goes.on (fun t k => X3.baloadBytes hx (j := p1) (v := (.int (bs 0))) (by rw [e3]; exact Ar8.1) (State.isArrayOf_alike hZ.alike Ar8.2.1) Ar8.2.2 hin8 hat8 (g := (mkF m 25 #[rv a1, .val (.long (accF bs 0)), .second, iv 0, .unset] [(.int p1), (.ref a2)])) rfl rfl (hb hby d11_25) t k) ?_
  show Goes p e below QQ (T3.setTop (mkF m 26 #[rv a1, .val (.long (accF bs 0)), .second, iv 0, .unset] [(.int (bs 0))]))
  refine Goes.on (fun t k => XS.istore X3.here hx rfl (hb hby d11_26) rfl (l' := #[rv a1, .val (.long (accF bs 0)), .second, iv 0, iv (bs 0)]) rfl k) ?_
  show Goes p e below QQ (T3.setTop (mkF m 28 #[rv a1, .val (.long (accF bs 0)), .second, iv 0, iv (bs 0)] []))
  refine Goes.on (fun t k => XS.lloadN X3.here hx rfl (hb hby d11_28) rfl k) ?_
  show Goes p e below QQ (T3.setTop (mkF m 29 #[rv a1, .val (.long (accF bs 0)), .second, iv 0, iv (bs 0)] [(.long (accF bs 0))]))
  refine Goes.on (fun t k => XS.iload X3.here hx rfl (hb hby d11_29) rfl k) ?_
  show Goes p e below QQ (T3.setTop (mkF m 31 #[rv a1, .val (.long (accF bs 0)), .second, iv 0, iv (bs 0)] [(.int (bs 0)), (.long (accF bs 0))]))
  refine Goes.on (fun t k => XS.i2l X3.here hx rfl (hb hby d11_31) rfl k) ?_
  show Goes p e below QQ (T3.setTop (mkF m 32 #[rv a1, .val (.long (accF bs 0)), .second, iv 0, iv (bs 0)] [(.long (bs 0).toInt64), (.long (accF bs 0))]))
  refine Goes.on (fun t k => X3.ldc2Long hx hown (mvT hZ (hw _ (List.mem_of_getElem? (i := 81) rfl))) (g := (mkF m 32 #[rv a1, .val (.long (accF bs 0)), .second, iv 0, iv (bs 0)] [(.long (bs 0).toInt64), (.long (accF bs 0))])) rfl (hb hby d11_32) t k) ?_
  show Goes p e below QQ (T3.setTop (mkF m 35 #[rv a1, .val (.long (accF bs 0)), .second, iv 0, iv (bs 0)] [(.long (127 : Int64)), (.long (bs 0).toInt64), (.long (accF bs 0))]))
  refine Goes.on (fun t k => XS.land X3.here hx rfl (hb hby d11_35) rfl k) ?_
  show Goes p e below QQ (T3.setTop (mkF m 36 #[rv a1, .val (.long (accF bs 0)), .second, iv 0, iv (bs 0)] [(.long ((bs 0).toInt64 &&& (127 : Int64))), (.long (accF bs 0))]))
  refine Goes.on (fun t k => XS.iloadN X3.here hx rfl (hb hby d11_36) rfl k) ?_
  show Goes p e below QQ (T3.setTop (mkF m 37 #[rv a1, .val (.long (accF bs 0)), .second, iv 0, iv (bs 0)] [(.int 0), (.long ((bs 0).toInt64 &&& (127 : Int64))), (.long (accF bs 0))]))
  refine Goes.on (fun t k => XS.lshl X3.here hx rfl (hb hby d11_37) rfl k) ?_
  show Goes p e below QQ (T3.setTop (mkF m 38 #[rv a1, .val (.long (accF bs 0)), .second, iv 0, iv (bs 0)] [(.long (((bs 0).toInt64 &&& (127 : Int64)) <<< ((0 : Int32) &&& 0x3f).toInt64)), (.long (accF bs 0))]))
  refine Goes.on (fun t k => XS.lor X3.here hx rfl (hb hby d11_38) rfl k) ?_
  show Goes p e below QQ (T3.setTop (mkF m 39 #[rv a1, .val (.long (accF bs 0)), .second, iv 0, iv (bs 0)] [(.long ((accF bs 0) ||| (((bs 0).toInt64 &&& (127 : Int64)) <<< ((0 : Int32) &&& 0x3f).toInt64)))]))
  refine Goes.on (fun t k => XS.lstoreN X3.here hx rfl (hb hby d11_39) rfl (l' := #[rv a1, .val (.long ((accF bs 0) ||| (((bs 0).toInt64 &&& (127 : Int64)) <<< ((0 : Int32) &&& 0x3f).toInt64))), .second, iv 0, iv (bs 0)]) rfl k) ?_
  show Goes p e below QQ (T3.setTop (mkF m 40 #[rv a1, .val (.long ((accF bs 0) ||| (((bs 0).toInt64 &&& (127 : Int64)) <<< ((0 : Int32) &&& 0x3f).toInt64))), .second, iv 0, iv (bs 0)] []))
  rw [own_acc0 bs]
  show Goes p e below QQ (T3.setTop (mkF m 40 #[rv a1, .val (.long (accF bs 1)), .second, iv 0, iv (bs 0)] []))
  refine Goes.on (fun t k => XS.iload X3.here hx rfl (hb hby d11_40) rfl k) ?_
  show Goes p e below QQ (T3.setTop (mkF m 42 #[rv a1, .val (.long (accF bs 1)), .second, iv 0, iv (bs 0)] [(.int (bs 0))]))
  by_cases hk0 : tn = 1
  · refine Goes.on (fun t k => XS.ifNo X3.here hx rfl (hb hby d11_42) rfl ((if0 _ _).trans (flt (R0x (by omega))).1) k) ?_
    show Goes p e below QQ (T3.setTop (mkF m 45 #[rv a1, .val (.long (accF bs 1)), .second, iv 0, iv (bs 0)] []))
    refine Goes.on (fun t k => XS.lloadN X3.here hx rfl (hb hby d11_45) rfl k) ?_
    show Goes p e below QQ (T3.setTop (mkF m 46 #[rv a1, .val (.long (accF bs 1)), .second, iv 0, iv (bs 0)] [(.long (accF bs 1))]))
    exact Goes.rJ X3 hx hret hlk (hb hby d11_46) hQQ (by rw [e3]; exact ⟨(by rw [hk0]), N3, K3, (by rw [hk0]; exact F_7)⟩) (by decide) (by decide)
  · refine Goes.on (fun t k => XS.ifYes X3.here hx rfl (pc0 := 42) (pc' := 47) rfl (hb hby d11_42) rfl ((if0 _ _).trans (tlt (N0x (by omega))).1) (by decide) (by decide) k) ?_
    show Goes p e below QQ (T3.setTop (mkF m 47 #[rv a1, .val (.long (accF bs 1)), .second, iv 0, iv (bs 0)] []))
    refine Goes.on (fun t k => XS.iinc X3.here hx rfl (hb hby d11_47) rfl (l' := #[rv a1, .val (.long (accF bs 1)), .second, iv ((0 : Int32) + (7 : Int32)), iv (bs 0)]) rfl k) ?_
    show Goes p e below QQ (T3.setTop (mkF m 50 #[rv a1, .val (.long (accF bs 1)), .second, iv ((0 : Int32) + (7 : Int32)), iv (bs 0)] []))
    rw [(by decide : ((0 : Int32) + (7 : Int32)) = (7 : Int32))]
    show Goes p e below QQ (T3.setTop (mkF m 50 #[rv a1, .val (.long (accF bs 1)), .second, iv 7, iv (bs 0)] []))
    refine Goes.on (fun t k => XS.goto X3.here hx rfl (pc0 := 50) (pc' := 4) rfl (hb hby d11_50) (by decide) (by decide) k) ?_
    show Goes p e below QQ (T3.setTop (mkF m 4 #[rv a1, .val (.long (accF bs 1)), .second, iv 7, iv (bs 0)] []))
    refine Goes.on (fun t k => XS.iloadN X3.here hx rfl (hb hby d11_4) rfl k) ?_
    show Goes p e below QQ (T3.setTop (mkF m 5 #[rv a1, .val (.long (accF bs 1)), .second, iv 7, iv (bs 0)] [(.int 7)]))
    refine Goes.on (fun t k => XS.bipush X3.here hx rfl (hb hby d11_5) k) ?_
    show Goes p e below QQ (T3.setTop (mkF m 7 #[rv a1, .val (.long (accF bs 1)), .second, iv 7, iv (bs 0)] [(.int 64), (.int 7)]))
    refine Goes.on (fun t k => XS.icmpNo X3.here hx rfl (hb hby d11_7) rfl (tlt (by decide)).2.1 k) ?_
    show Goes p e below QQ (T3.setTop (mkF m 10 #[rv a1, .val (.long (accF bs 1)), .second, iv 7, iv (bs 0)] []))
    have hi1 : 1 < tn := by omega
    obtain ⟨I1, G1, N1x, R1x⟩ := B1 hi1
    refine Goes.on (fun t k => XS.aloadN X3.here hx rfl (hb hby d11_10) rfl rfl k) ?_
    show Goes p e below QQ (T3.setTop (mkF m 11 #[rv a1, .val (.long (accF bs 1)), .second, iv 7, iv (bs 0)] [(.ref a1)]))
    obtain ⟨T9, X9, e9, st9⟩ := getF X3 hx hZ hown (host := "") (Or.inl (hw _ (List.mem_of_getElem? (i := 72) rfl))) Via.refl e3 F_5 (g := (mkF m 11 #[rv a1, .val (.long (accF bs 1)), .second, iv 7, iv (bs 0)] [(.ref a1)])) rfl rfl (hb hby d11_11)
    refine Goes.on (fun t k => st9 t k) ?_
    show Goes p e below QQ (T9.setTop (mkF m 14 #[rv a1, .val (.long (accF bs 1)), .second, iv 7, iv (bs 0)] [(.ref a2)]))
    refine Goes.on (fun t k => XS.aloadN X9.here hx rfl (hb hby d11_14) rfl rfl k) ?_
    show Goes p e below QQ (T9.setTop (mkF m 15 #[rv a1, .val (.long (accF bs 1)), .second, iv 7, iv (bs 0)] [(.ref a1), (.ref a2)]))
    refine Goes.on (fun t k => XS.dup X9.here hx rfl (hb hby d11_15) rfl rfl k) ?_
    show Goes p e below QQ (T9.setTop (mkF m 16 #[rv a1, .val (.long (accF bs 1)), .second, iv 7, iv (bs 0)] [(.ref a1), (.ref a1), (.ref a2)]))
    obtain ⟨T10, X10, e10, st10⟩ := getF X9 hx hZ hown (host := "") (Or.inl (hw _ (List.mem_of_getElem? (i := 74) rfl))) Via.refl e9 F_7 (g := (mkF m 16 #[rv a1, .val (.long (accF bs 1)), .second, iv 7, iv (bs 0)] [(.ref a1), (.ref a1), (.ref a2)])) rfl rfl (hb hby d11_16)
    refine Goes.on (fun t k => st10 t k) ?_
    show Goes p e below QQ (T10.setTop (mkF m 19 #[rv a1, .val (.long (accF bs 1)), .second, iv 7, iv (bs 0)] [(.int (p1 + (1 : Int32))), (.ref a1), (.ref a2)]))
    refine Goes.on (fun t k => XS.dupX1 X10.here hx rfl (hb hby d11_19) rfl rfl rfl k) ?_
    show Goes p e below QQ (T10.setTop (mkF m 20 #[rv a1, .val (.long (accF bs 1)), .second, iv 7, iv (bs 0)] [(.int (p1 + (1 : Int32))), (.ref a1), (.int (p1 + (1 : Int32))), (.ref a2)]))
    refine Goes.on (fun t k => XS.iconst X10.here hx rfl (hb hby d11_20) k) ?_
    show Goes p e below QQ (T10.setTop (mkF m 21 #[rv a1, .val (.long (accF bs 1)), .second, iv 7, iv (bs 0)] [(.int 1), (.int (p1 + (1 : Int32))), (.ref a1), (.int (p1 + (1 : Int32))), (.ref a2)]))
    refine Goes.on (fun t k => XS.iadd X10.here hx rfl (hb hby d11_21) rfl k) ?_
    show Goes p e below QQ (T10.setTop (mkF m 22 #[rv a1, .val (.long (accF bs 1)), .second, iv 7, iv (bs 0)] [(.int ((p1 + (1 : Int32)) + (1 : Int32))), (.ref a1), (.int (p1 + (1 : Int32))), (.ref a2)]))
    obtain ⟨T11, h11, X11, e11, W11, st11⟩ := putF X10 hx hZ hown (host := "") (Or.inl (hw _ (List.mem_of_getElem? (i := 74) rfl))) Via.refl e10 F_7 E_4 (Or.inl (hw _ (List.mem_of_getElem? (i := 75) rfl))) (hw _ (List.mem_of_getElem? (i := 11) rfl)) (ty := .int) (by decide) rfl rfl (g := (mkF m 22 #[rv a1, .val (.long (accF bs 1)), .second, iv 7, iv (bs 0)] [(.int ((p1 + (1 : Int32)) + (1 : Int32))), (.ref a1), (.int (p1 + (1 : Int32))), (.ref a2)])) rfl rfl (hb hby d11_22)
    have E_12 := E_4.wr W11
    have F_13 := F_5.other W11 (Or.inr (slot_ne (Or.inr (hw _ (List.mem_of_getElem? (i := 73) rfl))) (Or.inl (hw _ (List.mem_of_getElem? (i := 75) rfl))) (by decide) (t := (.array .byte)) (t' := .int) (by decide) (by decide)))
    have V_14 := V_6.other W11 ne_a2_a1
    have K11 := K3.wr W11 (Or.inl (List.mem_of_getElem? (i := 0) rfl))
    have N11 := Fr.snoc X11 N3 g_a1
    have F_15 : Fld Z h11 a1 "com/example/lendgate/lendgate/circulation/Decoder" "position" "I" (.int ((p1 + (1 : Int32)) + (1 : Int32))) := F_7.same W11
    refine Goes.on (fun t k => st11 t k) ?_
    show Goes p e below QQ (T11.setTop (mkF m 25 #[rv a1, .val (.long (accF bs 1)), .second, iv 7, iv (bs 0)] [(.int (p1 + (1 : Int32))), (.ref a2)]))
    have Fq1 := F_15
    rw [own_add p1 (1 : Int32) (1 : Int32) (2 : Int32) rfl] at Fq1
    show Goes p e below QQ (T11.setTop (mkF m 25 #[rv a1, .val (.long (accF bs 1)), .second, iv 7, iv (bs 0)] [(.int (p1 + (1 : Int32))), (.ref a2)]))
    obtain ⟨cl16, Ar16, aq16, aS16, aN16, aH16, aG16⟩ := id V_14
    have hin16 := inb_of (j := (p1 + (1 : Int32))) aS16 I1
    have hat16 := Has.at (v := (.int (bs 1))) aH16 hin16 G1
    refine Goes.on (fun t k => X11.baloadBytes hx (j := (p1 + (1 : Int32))) (v := (.int (bs 1))) (by rw [e11]; exact Ar16.1) (State.isArrayOf_alike hZ.alike Ar16.2.1) Ar16.2.2 hin16 hat16 (g := (mkF m 25 #[rv a1, .val (.long (accF bs 1)), .second, iv 7, iv (bs 0)] [(.int (p1 + (1 : Int32))), (.ref a2)])) rfl rfl (hb hby d11_25) t k) ?_
    show Goes p e below QQ (T11.setTop (mkF m 26 #[rv a1, .val (.long (accF bs 1)), .second, iv 7, iv (bs 0)] [(.int (bs 1))]))
    refine Goes.on (fun t k => XS.istore X11.here hx rfl (hb hby d11_26) rfl (l' := #[rv a1, .val (.long (accF bs 1)), .second, iv 7, iv (bs 1)]) rfl k) ?_
    show Goes p e below QQ (T11.setTop (mkF m 28 #[rv a1, .val (.long (accF bs 1)), .second, iv 7, iv (bs 1)] []))
    refine Goes.on (fun t k => XS.lloadN X11.here hx rfl (hb hby d11_28) rfl k) ?_
    show Goes p e below QQ (T11.setTop (mkF m 29 #[rv a1, .val (.long (accF bs 1)), .second, iv 7, iv (bs 1)] [(.long (accF bs 1))]))
    refine Goes.on (fun t k => XS.iload X11.here hx rfl (hb hby d11_29) rfl k) ?_
    show Goes p e below QQ (T11.setTop (mkF m 31 #[rv a1, .val (.long (accF bs 1)), .second, iv 7, iv (bs 1)] [(.int (bs 1)), (.long (accF bs 1))]))
    refine Goes.on (fun t k => XS.i2l X11.here hx rfl (hb hby d11_31) rfl k) ?_
    show Goes p e below QQ (T11.setTop (mkF m 32 #[rv a1, .val (.long (accF bs 1)), .second, iv 7, iv (bs 1)] [(.long (bs 1).toInt64), (.long (accF bs 1))]))
    refine Goes.on (fun t k => X11.ldc2Long hx hown (mvT hZ (hw _ (List.mem_of_getElem? (i := 81) rfl))) (g := (mkF m 32 #[rv a1, .val (.long (accF bs 1)), .second, iv 7, iv (bs 1)] [(.long (bs 1).toInt64), (.long (accF bs 1))])) rfl (hb hby d11_32) t k) ?_
    show Goes p e below QQ (T11.setTop (mkF m 35 #[rv a1, .val (.long (accF bs 1)), .second, iv 7, iv (bs 1)] [(.long (127 : Int64)), (.long (bs 1).toInt64), (.long (accF bs 1))]))
    refine Goes.on (fun t k => XS.land X11.here hx rfl (hb hby d11_35) rfl k) ?_
    show Goes p e below QQ (T11.setTop (mkF m 36 #[rv a1, .val (.long (accF bs 1)), .second, iv 7, iv (bs 1)] [(.long ((bs 1).toInt64 &&& (127 : Int64))), (.long (accF bs 1))]))
    refine Goes.on (fun t k => XS.iloadN X11.here hx rfl (hb hby d11_36) rfl k) ?_
    show Goes p e below QQ (T11.setTop (mkF m 37 #[rv a1, .val (.long (accF bs 1)), .second, iv 7, iv (bs 1)] [(.int 7), (.long ((bs 1).toInt64 &&& (127 : Int64))), (.long (accF bs 1))]))
    refine Goes.on (fun t k => XS.lshl X11.here hx rfl (hb hby d11_37) rfl k) ?_
    show Goes p e below QQ (T11.setTop (mkF m 38 #[rv a1, .val (.long (accF bs 1)), .second, iv 7, iv (bs 1)] [(.long (((bs 1).toInt64 &&& (127 : Int64)) <<< ((7 : Int32) &&& 0x3f).toInt64)), (.long (accF bs 1))]))
    refine Goes.on (fun t k => XS.lor X11.here hx rfl (hb hby d11_38) rfl k) ?_
    show Goes p e below QQ (T11.setTop (mkF m 39 #[rv a1, .val (.long (accF bs 1)), .second, iv 7, iv (bs 1)] [(.long ((accF bs 1) ||| (((bs 1).toInt64 &&& (127 : Int64)) <<< ((7 : Int32) &&& 0x3f).toInt64)))]))
    refine Goes.on (fun t k => XS.lstoreN X11.here hx rfl (hb hby d11_39) rfl (l' := #[rv a1, .val (.long ((accF bs 1) ||| (((bs 1).toInt64 &&& (127 : Int64)) <<< ((7 : Int32) &&& 0x3f).toInt64))), .second, iv 7, iv (bs 1)]) rfl k) ?_
    show Goes p e below QQ (T11.setTop (mkF m 40 #[rv a1, .val (.long ((accF bs 1) ||| (((bs 1).toInt64 &&& (127 : Int64)) <<< ((7 : Int32) &&& 0x3f).toInt64))), .second, iv 7, iv (bs 1)] []))
    rw [own_acc1 bs]
    show Goes p e below QQ (T11.setTop (mkF m 40 #[rv a1, .val (.long (accF bs 2)), .second, iv 7, iv (bs 1)] []))
    refine Goes.on (fun t k => XS.iload X11.here hx rfl (hb hby d11_40) rfl k) ?_
    show Goes p e below QQ (T11.setTop (mkF m 42 #[rv a1, .val (.long (accF bs 2)), .second, iv 7, iv (bs 1)] [(.int (bs 1))]))
    by_cases hk1 : tn = 2
    · refine Goes.on (fun t k => XS.ifNo X11.here hx rfl (hb hby d11_42) rfl ((if0 _ _).trans (flt (R1x (by omega))).1) k) ?_
      show Goes p e below QQ (T11.setTop (mkF m 45 #[rv a1, .val (.long (accF bs 2)), .second, iv 7, iv (bs 1)] []))
      refine Goes.on (fun t k => XS.lloadN X11.here hx rfl (hb hby d11_45) rfl k) ?_
      show Goes p e below QQ (T11.setTop (mkF m 46 #[rv a1, .val (.long (accF bs 2)), .second, iv 7, iv (bs 1)] [(.long (accF bs 2))]))
      exact Goes.rJ X11 hx hret hlk (hb hby d11_46) hQQ (by rw [e11]; exact ⟨(by rw [hk1]), N11, K11, (by rw [hk1]; exact Fq1)⟩) (by decide) (by decide)
    · refine Goes.on (fun t k => XS.ifYes X11.here hx rfl (pc0 := 42) (pc' := 47) rfl (hb hby d11_42) rfl ((if0 _ _).trans (tlt (N1x (by omega))).1) (by decide) (by decide) k) ?_
      show Goes p e below QQ (T11.setTop (mkF m 47 #[rv a1, .val (.long (accF bs 2)), .second, iv 7, iv (bs 1)] []))
      refine Goes.on (fun t k => XS.iinc X11.here hx rfl (hb hby d11_47) rfl (l' := #[rv a1, .val (.long (accF bs 2)), .second, iv ((7 : Int32) + (7 : Int32)), iv (bs 1)]) rfl k) ?_
      show Goes p e below QQ (T11.setTop (mkF m 50 #[rv a1, .val (.long (accF bs 2)), .second, iv ((7 : Int32) + (7 : Int32)), iv (bs 1)] []))
      rw [(by decide : ((7 : Int32) + (7 : Int32)) = (14 : Int32))]
      show Goes p e below QQ (T11.setTop (mkF m 50 #[rv a1, .val (.long (accF bs 2)), .second, iv 14, iv (bs 1)] []))
      refine Goes.on (fun t k => XS.goto X11.here hx rfl (pc0 := 50) (pc' := 4) rfl (hb hby d11_50) (by decide) (by decide) k) ?_
      show Goes p e below QQ (T11.setTop (mkF m 4 #[rv a1, .val (.long (accF bs 2)), .second, iv 14, iv (bs 1)] []))
      refine Goes.on (fun t k => XS.iloadN X11.here hx rfl (hb hby d11_4) rfl k) ?_
      show Goes p e below QQ (T11.setTop (mkF m 5 #[rv a1, .val (.long (accF bs 2)), .second, iv 14, iv (bs 1)] [(.int 14)]))
      refine Goes.on (fun t k => XS.bipush X11.here hx rfl (hb hby d11_5) k) ?_
      show Goes p e below QQ (T11.setTop (mkF m 7 #[rv a1, .val (.long (accF bs 2)), .second, iv 14, iv (bs 1)] [(.int 64), (.int 14)]))
      refine Goes.on (fun t k => XS.icmpNo X11.here hx rfl (hb hby d11_7) rfl (tlt (by decide)).2.1 k) ?_
      show Goes p e below QQ (T11.setTop (mkF m 10 #[rv a1, .val (.long (accF bs 2)), .second, iv 14, iv (bs 1)] []))
      have hi2 : 2 < tn := by omega
      obtain ⟨I2, G2, N2x, R2x⟩ := B2 hi2
      refine Goes.on (fun t k => XS.aloadN X11.here hx rfl (hb hby d11_10) rfl rfl k) ?_
      show Goes p e below QQ (T11.setTop (mkF m 11 #[rv a1, .val (.long (accF bs 2)), .second, iv 14, iv (bs 1)] [(.ref a1)]))
      obtain ⟨T17, X17, e17, st17⟩ := getF X11 hx hZ hown (host := "") (Or.inl (hw _ (List.mem_of_getElem? (i := 72) rfl))) Via.refl e11 F_13 (g := (mkF m 11 #[rv a1, .val (.long (accF bs 2)), .second, iv 14, iv (bs 1)] [(.ref a1)])) rfl rfl (hb hby d11_11)
      refine Goes.on (fun t k => st17 t k) ?_
      show Goes p e below QQ (T17.setTop (mkF m 14 #[rv a1, .val (.long (accF bs 2)), .second, iv 14, iv (bs 1)] [(.ref a2)]))
      refine Goes.on (fun t k => XS.aloadN X17.here hx rfl (hb hby d11_14) rfl rfl k) ?_
      show Goes p e below QQ (T17.setTop (mkF m 15 #[rv a1, .val (.long (accF bs 2)), .second, iv 14, iv (bs 1)] [(.ref a1), (.ref a2)]))
      refine Goes.on (fun t k => XS.dup X17.here hx rfl (hb hby d11_15) rfl rfl k) ?_
      show Goes p e below QQ (T17.setTop (mkF m 16 #[rv a1, .val (.long (accF bs 2)), .second, iv 14, iv (bs 1)] [(.ref a1), (.ref a1), (.ref a2)]))
      obtain ⟨T18, X18, e18, st18⟩ := getF X17 hx hZ hown (host := "") (Or.inl (hw _ (List.mem_of_getElem? (i := 74) rfl))) Via.refl e17 Fq1 (g := (mkF m 16 #[rv a1, .val (.long (accF bs 2)), .second, iv 14, iv (bs 1)] [(.ref a1), (.ref a1), (.ref a2)])) rfl rfl (hb hby d11_16)
      refine Goes.on (fun t k => st18 t k) ?_
      show Goes p e below QQ (T18.setTop (mkF m 19 #[rv a1, .val (.long (accF bs 2)), .second, iv 14, iv (bs 1)] [(.int (p1 + (2 : Int32))), (.ref a1), (.ref a2)]))
      refine Goes.on (fun t k => XS.dupX1 X18.here hx rfl (hb hby d11_19) rfl rfl rfl k) ?_
      show Goes p e below QQ (T18.setTop (mkF m 20 #[rv a1, .val (.long (accF bs 2)), .second, iv 14, iv (bs 1)] [(.int (p1 + (2 : Int32))), (.ref a1), (.int (p1 + (2 : Int32))), (.ref a2)]))
      refine Goes.on (fun t k => XS.iconst X18.here hx rfl (hb hby d11_20) k) ?_
      show Goes p e below QQ (T18.setTop (mkF m 21 #[rv a1, .val (.long (accF bs 2)), .second, iv 14, iv (bs 1)] [(.int 1), (.int (p1 + (2 : Int32))), (.ref a1), (.int (p1 + (2 : Int32))), (.ref a2)]))
      refine Goes.on (fun t k => XS.iadd X18.here hx rfl (hb hby d11_21) rfl k) ?_
      show Goes p e below QQ (T18.setTop (mkF m 22 #[rv a1, .val (.long (accF bs 2)), .second, iv 14, iv (bs 1)] [(.int ((p1 + (2 : Int32)) + (1 : Int32))), (.ref a1), (.int (p1 + (2 : Int32))), (.ref a2)]))
      obtain ⟨T19, h19, X19, e19, W19, st19⟩ := putF X18 hx hZ hown (host := "") (Or.inl (hw _ (List.mem_of_getElem? (i := 74) rfl))) Via.refl e18 Fq1 E_12 (Or.inl (hw _ (List.mem_of_getElem? (i := 75) rfl))) (hw _ (List.mem_of_getElem? (i := 11) rfl)) (ty := .int) (by decide) rfl rfl (g := (mkF m 22 #[rv a1, .val (.long (accF bs 2)), .second, iv 14, iv (bs 1)] [(.int ((p1 + (2 : Int32)) + (1 : Int32))), (.ref a1), (.int (p1 + (2 : Int32))), (.ref a2)])) rfl rfl (hb hby d11_22)
      have E_20 := E_12.wr W19
      have F_21 := F_13.other W19 (Or.inr (slot_ne (Or.inr (hw _ (List.mem_of_getElem? (i := 73) rfl))) (Or.inl (hw _ (List.mem_of_getElem? (i := 75) rfl))) (by decide) (t := (.array .byte)) (t' := .int) (by decide) (by decide)))
      have V_22 := V_14.other W19 ne_a2_a1
      have K19 := K11.wr W19 (Or.inl (List.mem_of_getElem? (i := 0) rfl))
      have N19 := Fr.snoc X19 N11 g_a1
      have F_23 : Fld Z h19 a1 "com/example/lendgate/lendgate/circulation/Decoder" "position" "I" (.int ((p1 + (2 : Int32)) + (1 : Int32))) := Fq1.same W19
      refine Goes.on (fun t k => st19 t k) ?_
      show Goes p e below QQ (T19.setTop (mkF m 25 #[rv a1, .val (.long (accF bs 2)), .second, iv 14, iv (bs 1)] [(.int (p1 + (2 : Int32))), (.ref a2)]))
      have Fq2 := F_23
      rw [own_add p1 (2 : Int32) (1 : Int32) (3 : Int32) rfl] at Fq2
      show Goes p e below QQ (T19.setTop (mkF m 25 #[rv a1, .val (.long (accF bs 2)), .second, iv 14, iv (bs 1)] [(.int (p1 + (2 : Int32))), (.ref a2)]))
      obtain ⟨cl24, Ar24, aq24, aS24, aN24, aH24, aG24⟩ := id V_22
      have hin24 := inb_of (j := (p1 + (2 : Int32))) aS24 I2
      have hat24 := Has.at (v := (.int (bs 2))) aH24 hin24 G2
      refine Goes.on (fun t k => X19.baloadBytes hx (j := (p1 + (2 : Int32))) (v := (.int (bs 2))) (by rw [e19]; exact Ar24.1) (State.isArrayOf_alike hZ.alike Ar24.2.1) Ar24.2.2 hin24 hat24 (g := (mkF m 25 #[rv a1, .val (.long (accF bs 2)), .second, iv 14, iv (bs 1)] [(.int (p1 + (2 : Int32))), (.ref a2)])) rfl rfl (hb hby d11_25) t k) ?_
      show Goes p e below QQ (T19.setTop (mkF m 26 #[rv a1, .val (.long (accF bs 2)), .second, iv 14, iv (bs 1)] [(.int (bs 2))]))
      refine Goes.on (fun t k => XS.istore X19.here hx rfl (hb hby d11_26) rfl (l' := #[rv a1, .val (.long (accF bs 2)), .second, iv 14, iv (bs 2)]) rfl k) ?_
      show Goes p e below QQ (T19.setTop (mkF m 28 #[rv a1, .val (.long (accF bs 2)), .second, iv 14, iv (bs 2)] []))
      refine Goes.on (fun t k => XS.lloadN X19.here hx rfl (hb hby d11_28) rfl k) ?_
      show Goes p e below QQ (T19.setTop (mkF m 29 #[rv a1, .val (.long (accF bs 2)), .second, iv 14, iv (bs 2)] [(.long (accF bs 2))]))
      refine Goes.on (fun t k => XS.iload X19.here hx rfl (hb hby d11_29) rfl k) ?_
      show Goes p e below QQ (T19.setTop (mkF m 31 #[rv a1, .val (.long (accF bs 2)), .second, iv 14, iv (bs 2)] [(.int (bs 2)), (.long (accF bs 2))]))
      refine Goes.on (fun t k => XS.i2l X19.here hx rfl (hb hby d11_31) rfl k) ?_
      show Goes p e below QQ (T19.setTop (mkF m 32 #[rv a1, .val (.long (accF bs 2)), .second, iv 14, iv (bs 2)] [(.long (bs 2).toInt64), (.long (accF bs 2))]))
      refine Goes.on (fun t k => X19.ldc2Long hx hown (mvT hZ (hw _ (List.mem_of_getElem? (i := 81) rfl))) (g := (mkF m 32 #[rv a1, .val (.long (accF bs 2)), .second, iv 14, iv (bs 2)] [(.long (bs 2).toInt64), (.long (accF bs 2))])) rfl (hb hby d11_32) t k) ?_
      show Goes p e below QQ (T19.setTop (mkF m 35 #[rv a1, .val (.long (accF bs 2)), .second, iv 14, iv (bs 2)] [(.long (127 : Int64)), (.long (bs 2).toInt64), (.long (accF bs 2))]))
      refine Goes.on (fun t k => XS.land X19.here hx rfl (hb hby d11_35) rfl k) ?_
      show Goes p e below QQ (T19.setTop (mkF m 36 #[rv a1, .val (.long (accF bs 2)), .second, iv 14, iv (bs 2)] [(.long ((bs 2).toInt64 &&& (127 : Int64))), (.long (accF bs 2))]))
      refine Goes.on (fun t k => XS.iloadN X19.here hx rfl (hb hby d11_36) rfl k) ?_
      show Goes p e below QQ (T19.setTop (mkF m 37 #[rv a1, .val (.long (accF bs 2)), .second, iv 14, iv (bs 2)] [(.int 14), (.long ((bs 2).toInt64 &&& (127 : Int64))), (.long (accF bs 2))]))
      refine Goes.on (fun t k => XS.lshl X19.here hx rfl (hb hby d11_37) rfl k) ?_
      show Goes p e below QQ (T19.setTop (mkF m 38 #[rv a1, .val (.long (accF bs 2)), .second, iv 14, iv (bs 2)] [(.long (((bs 2).toInt64 &&& (127 : Int64)) <<< ((14 : Int32) &&& 0x3f).toInt64)), (.long (accF bs 2))]))
      refine Goes.on (fun t k => XS.lor X19.here hx rfl (hb hby d11_38) rfl k) ?_
      show Goes p e below QQ (T19.setTop (mkF m 39 #[rv a1, .val (.long (accF bs 2)), .second, iv 14, iv (bs 2)] [(.long ((accF bs 2) ||| (((bs 2).toInt64 &&& (127 : Int64)) <<< ((14 : Int32) &&& 0x3f).toInt64)))]))
      refine Goes.on (fun t k => XS.lstoreN X19.here hx rfl (hb hby d11_39) rfl (l' := #[rv a1, .val (.long ((accF bs 2) ||| (((bs 2).toInt64 &&& (127 : Int64)) <<< ((14 : Int32) &&& 0x3f).toInt64))), .second, iv 14, iv (bs 2)]) rfl k) ?_
      show Goes p e below QQ (T19.setTop (mkF m 40 #[rv a1, .val (.long ((accF bs 2) ||| (((bs 2).toInt64 &&& (127 : Int64)) <<< ((14 : Int32) &&& 0x3f).toInt64))), .second, iv 14, iv (bs 2)] []))
      rw [own_acc2 bs]
      show Goes p e below QQ (T19.setTop (mkF m 40 #[rv a1, .val (.long (accF bs 3)), .second, iv 14, iv (bs 2)] []))
      refine Goes.on (fun t k => XS.iload X19.here hx rfl (hb hby d11_40) rfl k) ?_
      show Goes p e below QQ (T19.setTop (mkF m 42 #[rv a1, .val (.long (accF bs 3)), .second, iv 14, iv (bs 2)] [(.int (bs 2))]))
      by_cases hk2 : tn = 3
      · refine Goes.on (fun t k => XS.ifNo X19.here hx rfl (hb hby d11_42) rfl ((if0 _ _).trans (flt (R2x (by omega))).1) k) ?_
        show Goes p e below QQ (T19.setTop (mkF m 45 #[rv a1, .val (.long (accF bs 3)), .second, iv 14, iv (bs 2)] []))
        refine Goes.on (fun t k => XS.lloadN X19.here hx rfl (hb hby d11_45) rfl k) ?_
        show Goes p e below QQ (T19.setTop (mkF m 46 #[rv a1, .val (.long (accF bs 3)), .second, iv 14, iv (bs 2)] [(.long (accF bs 3))]))
        exact Goes.rJ X19 hx hret hlk (hb hby d11_46) hQQ (by rw [e19]; exact ⟨(by rw [hk2]), N19, K19, (by rw [hk2]; exact Fq2)⟩) (by decide) (by decide)
      · refine Goes.on (fun t k => XS.ifYes X19.here hx rfl (pc0 := 42) (pc' := 47) rfl (hb hby d11_42) rfl ((if0 _ _).trans (tlt (N2x (by omega))).1) (by decide) (by decide) k) ?_
        show Goes p e below QQ (T19.setTop (mkF m 47 #[rv a1, .val (.long (accF bs 3)), .second, iv 14, iv (bs 2)] []))
        refine Goes.on (fun t k => XS.iinc X19.here hx rfl (hb hby d11_47) rfl (l' := #[rv a1, .val (.long (accF bs 3)), .second, iv ((14 : Int32) + (7 : Int32)), iv (bs 2)]) rfl k) ?_
        show Goes p e below QQ (T19.setTop (mkF m 50 #[rv a1, .val (.long (accF bs 3)), .second, iv ((14 : Int32) + (7 : Int32)), iv (bs 2)] []))
        rw [(by decide : ((14 : Int32) + (7 : Int32)) = (21 : Int32))]
        show Goes p e below QQ (T19.setTop (mkF m 50 #[rv a1, .val (.long (accF bs 3)), .second, iv 21, iv (bs 2)] []))
        refine Goes.on (fun t k => XS.goto X19.here hx rfl (pc0 := 50) (pc' := 4) rfl (hb hby d11_50) (by decide) (by decide) k) ?_
        show Goes p e below QQ (T19.setTop (mkF m 4 #[rv a1, .val (.long (accF bs 3)), .second, iv 21, iv (bs 2)] []))
        refine Goes.on (fun t k => XS.iloadN X19.here hx rfl (hb hby d11_4) rfl k) ?_
        show Goes p e below QQ (T19.setTop (mkF m 5 #[rv a1, .val (.long (accF bs 3)), .second, iv 21, iv (bs 2)] [(.int 21)]))
        refine Goes.on (fun t k => XS.bipush X19.here hx rfl (hb hby d11_5) k) ?_
        show Goes p e below QQ (T19.setTop (mkF m 7 #[rv a1, .val (.long (accF bs 3)), .second, iv 21, iv (bs 2)] [(.int 64), (.int 21)]))
        refine Goes.on (fun t k => XS.icmpNo X19.here hx rfl (hb hby d11_7) rfl (tlt (by decide)).2.1 k) ?_
        show Goes p e below QQ (T19.setTop (mkF m 10 #[rv a1, .val (.long (accF bs 3)), .second, iv 21, iv (bs 2)] []))
        have hi3 : 3 < tn := by omega
        obtain ⟨I3, G3, N3x, R3x⟩ := B3 hi3
        refine Goes.on (fun t k => XS.aloadN X19.here hx rfl (hb hby d11_10) rfl rfl k) ?_
        show Goes p e below QQ (T19.setTop (mkF m 11 #[rv a1, .val (.long (accF bs 3)), .second, iv 21, iv (bs 2)] [(.ref a1)]))
        obtain ⟨T25, X25, e25, st25⟩ := getF X19 hx hZ hown (host := "") (Or.inl (hw _ (List.mem_of_getElem? (i := 72) rfl))) Via.refl e19 F_21 (g := (mkF m 11 #[rv a1, .val (.long (accF bs 3)), .second, iv 21, iv (bs 2)] [(.ref a1)])) rfl rfl (hb hby d11_11)
        refine Goes.on (fun t k => st25 t k) ?_
        show Goes p e below QQ (T25.setTop (mkF m 14 #[rv a1, .val (.long (accF bs 3)), .second, iv 21, iv (bs 2)] [(.ref a2)]))
        refine Goes.on (fun t k => XS.aloadN X25.here hx rfl (hb hby d11_14) rfl rfl k) ?_
        show Goes p e below QQ (T25.setTop (mkF m 15 #[rv a1, .val (.long (accF bs 3)), .second, iv 21, iv (bs 2)] [(.ref a1), (.ref a2)]))
        refine Goes.on (fun t k => XS.dup X25.here hx rfl (hb hby d11_15) rfl rfl k) ?_
        show Goes p e below QQ (T25.setTop (mkF m 16 #[rv a1, .val (.long (accF bs 3)), .second, iv 21, iv (bs 2)] [(.ref a1), (.ref a1), (.ref a2)]))
        obtain ⟨T26, X26, e26, st26⟩ := getF X25 hx hZ hown (host := "") (Or.inl (hw _ (List.mem_of_getElem? (i := 74) rfl))) Via.refl e25 Fq2 (g := (mkF m 16 #[rv a1, .val (.long (accF bs 3)), .second, iv 21, iv (bs 2)] [(.ref a1), (.ref a1), (.ref a2)])) rfl rfl (hb hby d11_16)
        refine Goes.on (fun t k => st26 t k) ?_
        show Goes p e below QQ (T26.setTop (mkF m 19 #[rv a1, .val (.long (accF bs 3)), .second, iv 21, iv (bs 2)] [(.int (p1 + (3 : Int32))), (.ref a1), (.ref a2)]))
        refine Goes.on (fun t k => XS.dupX1 X26.here hx rfl (hb hby d11_19) rfl rfl rfl k) ?_
        show Goes p e below QQ (T26.setTop (mkF m 20 #[rv a1, .val (.long (accF bs 3)), .second, iv 21, iv (bs 2)] [(.int (p1 + (3 : Int32))), (.ref a1), (.int (p1 + (3 : Int32))), (.ref a2)]))
        refine Goes.on (fun t k => XS.iconst X26.here hx rfl (hb hby d11_20) k) ?_
        show Goes p e below QQ (T26.setTop (mkF m 21 #[rv a1, .val (.long (accF bs 3)), .second, iv 21, iv (bs 2)] [(.int 1), (.int (p1 + (3 : Int32))), (.ref a1), (.int (p1 + (3 : Int32))), (.ref a2)]))
        refine Goes.on (fun t k => XS.iadd X26.here hx rfl (hb hby d11_21) rfl k) ?_
        show Goes p e below QQ (T26.setTop (mkF m 22 #[rv a1, .val (.long (accF bs 3)), .second, iv 21, iv (bs 2)] [(.int ((p1 + (3 : Int32)) + (1 : Int32))), (.ref a1), (.int (p1 + (3 : Int32))), (.ref a2)]))
        obtain ⟨T27, h27, X27, e27, W27, st27⟩ := putF X26 hx hZ hown (host := "") (Or.inl (hw _ (List.mem_of_getElem? (i := 74) rfl))) Via.refl e26 Fq2 E_20 (Or.inl (hw _ (List.mem_of_getElem? (i := 75) rfl))) (hw _ (List.mem_of_getElem? (i := 11) rfl)) (ty := .int) (by decide) rfl rfl (g := (mkF m 22 #[rv a1, .val (.long (accF bs 3)), .second, iv 21, iv (bs 2)] [(.int ((p1 + (3 : Int32)) + (1 : Int32))), (.ref a1), (.int (p1 + (3 : Int32))), (.ref a2)])) rfl rfl (hb hby d11_22)
        have E_28 := E_20.wr W27
        have F_29 := F_21.other W27 (Or.inr (slot_ne (Or.inr (hw _ (List.mem_of_getElem? (i := 73) rfl))) (Or.inl (hw _ (List.mem_of_getElem? (i := 75) rfl))) (by decide) (t := (.array .byte)) (t' := .int) (by decide) (by decide)))
        have V_30 := V_22.other W27 ne_a2_a1
        have K27 := K19.wr W27 (Or.inl (List.mem_of_getElem? (i := 0) rfl))
        have N27 := Fr.snoc X27 N19 g_a1
        have F_31 : Fld Z h27 a1 "com/example/lendgate/lendgate/circulation/Decoder" "position" "I" (.int ((p1 + (3 : Int32)) + (1 : Int32))) := Fq2.same W27
        refine Goes.on (fun t k => st27 t k) ?_
        show Goes p e below QQ (T27.setTop (mkF m 25 #[rv a1, .val (.long (accF bs 3)), .second, iv 21, iv (bs 2)] [(.int (p1 + (3 : Int32))), (.ref a2)]))
        have Fq3 := F_31
        rw [own_add p1 (3 : Int32) (1 : Int32) (4 : Int32) rfl] at Fq3
        show Goes p e below QQ (T27.setTop (mkF m 25 #[rv a1, .val (.long (accF bs 3)), .second, iv 21, iv (bs 2)] [(.int (p1 + (3 : Int32))), (.ref a2)]))
        obtain ⟨cl32, Ar32, aq32, aS32, aN32, aH32, aG32⟩ := id V_30
        have hin32 := inb_of (j := (p1 + (3 : Int32))) aS32 I3
        have hat32 := Has.at (v := (.int (bs 3))) aH32 hin32 G3
        refine Goes.on (fun t k => X27.baloadBytes hx (j := (p1 + (3 : Int32))) (v := (.int (bs 3))) (by rw [e27]; exact Ar32.1) (State.isArrayOf_alike hZ.alike Ar32.2.1) Ar32.2.2 hin32 hat32 (g := (mkF m 25 #[rv a1, .val (.long (accF bs 3)), .second, iv 21, iv (bs 2)] [(.int (p1 + (3 : Int32))), (.ref a2)])) rfl rfl (hb hby d11_25) t k) ?_
        show Goes p e below QQ (T27.setTop (mkF m 26 #[rv a1, .val (.long (accF bs 3)), .second, iv 21, iv (bs 2)] [(.int (bs 3))]))
        refine Goes.on (fun t k => XS.istore X27.here hx rfl (hb hby d11_26) rfl (l' := #[rv a1, .val (.long (accF bs 3)), .second, iv 21, iv (bs 3)]) rfl k) ?_
        show Goes p e below QQ (T27.setTop (mkF m 28 #[rv a1, .val (.long (accF bs 3)), .second, iv 21, iv (bs 3)] []))
        refine Goes.on (fun t k => XS.lloadN X27.here hx rfl (hb hby d11_28) rfl k) ?_
        show Goes p e below QQ (T27.setTop (mkF m 29 #[rv a1, .val (.long (accF bs 3)), .second, iv 21, iv (bs 3)] [(.long (accF bs 3))]))
        refine Goes.on (fun t k => XS.iload X27.here hx rfl (hb hby d11_29) rfl k) ?_
        show Goes p e below QQ (T27.setTop (mkF m 31 #[rv a1, .val (.long (accF bs 3)), .second, iv 21, iv (bs 3)] [(.int (bs 3)), (.long (accF bs 3))]))
        refine Goes.on (fun t k => XS.i2l X27.here hx rfl (hb hby d11_31) rfl k) ?_
        show Goes p e below QQ (T27.setTop (mkF m 32 #[rv a1, .val (.long (accF bs 3)), .second, iv 21, iv (bs 3)] [(.long (bs 3).toInt64), (.long (accF bs 3))]))
        refine Goes.on (fun t k => X27.ldc2Long hx hown (mvT hZ (hw _ (List.mem_of_getElem? (i := 81) rfl))) (g := (mkF m 32 #[rv a1, .val (.long (accF bs 3)), .second, iv 21, iv (bs 3)] [(.long (bs 3).toInt64), (.long (accF bs 3))])) rfl (hb hby d11_32) t k) ?_
        show Goes p e below QQ (T27.setTop (mkF m 35 #[rv a1, .val (.long (accF bs 3)), .second, iv 21, iv (bs 3)] [(.long (127 : Int64)), (.long (bs 3).toInt64), (.long (accF bs 3))]))
        refine Goes.on (fun t k => XS.land X27.here hx rfl (hb hby d11_35) rfl k) ?_
        show Goes p e below QQ (T27.setTop (mkF m 36 #[rv a1, .val (.long (accF bs 3)), .second, iv 21, iv (bs 3)] [(.long ((bs 3).toInt64 &&& (127 : Int64))), (.long (accF bs 3))]))
        refine Goes.on (fun t k => XS.iloadN X27.here hx rfl (hb hby d11_36) rfl k) ?_
        show Goes p e below QQ (T27.setTop (mkF m 37 #[rv a1, .val (.long (accF bs 3)), .second, iv 21, iv (bs 3)] [(.int 21), (.long ((bs 3).toInt64 &&& (127 : Int64))), (.long (accF bs 3))]))
        refine Goes.on (fun t k => XS.lshl X27.here hx rfl (hb hby d11_37) rfl k) ?_
        show Goes p e below QQ (T27.setTop (mkF m 38 #[rv a1, .val (.long (accF bs 3)), .second, iv 21, iv (bs 3)] [(.long (((bs 3).toInt64 &&& (127 : Int64)) <<< ((21 : Int32) &&& 0x3f).toInt64)), (.long (accF bs 3))]))
        refine Goes.on (fun t k => XS.lor X27.here hx rfl (hb hby d11_38) rfl k) ?_
        show Goes p e below QQ (T27.setTop (mkF m 39 #[rv a1, .val (.long (accF bs 3)), .second, iv 21, iv (bs 3)] [(.long ((accF bs 3) ||| (((bs 3).toInt64 &&& (127 : Int64)) <<< ((21 : Int32) &&& 0x3f).toInt64)))]))
        refine Goes.on (fun t k => XS.lstoreN X27.here hx rfl (hb hby d11_39) rfl (l' := #[rv a1, .val (.long ((accF bs 3) ||| (((bs 3).toInt64 &&& (127 : Int64)) <<< ((21 : Int32) &&& 0x3f).toInt64))), .second, iv 21, iv (bs 3)]) rfl k) ?_
        show Goes p e below QQ (T27.setTop (mkF m 40 #[rv a1, .val (.long ((accF bs 3) ||| (((bs 3).toInt64 &&& (127 : Int64)) <<< ((21 : Int32) &&& 0x3f).toInt64))), .second, iv 21, iv (bs 3)] []))
        rw [own_acc3 bs]
        show Goes p e below QQ (T27.setTop (mkF m 40 #[rv a1, .val (.long (accF bs 4)), .second, iv 21, iv (bs 3)] []))
        refine Goes.on (fun t k => XS.iload X27.here hx rfl (hb hby d11_40) rfl k) ?_
        show Goes p e below QQ (T27.setTop (mkF m 42 #[rv a1, .val (.long (accF bs 4)), .second, iv 21, iv (bs 3)] [(.int (bs 3))]))
        by_cases hk3 : tn = 4
        · refine Goes.on (fun t k => XS.ifNo X27.here hx rfl (hb hby d11_42) rfl ((if0 _ _).trans (flt (R3x (by omega))).1) k) ?_
          show Goes p e below QQ (T27.setTop (mkF m 45 #[rv a1, .val (.long (accF bs 4)), .second, iv 21, iv (bs 3)] []))
          refine Goes.on (fun t k => XS.lloadN X27.here hx rfl (hb hby d11_45) rfl k) ?_
          show Goes p e below QQ (T27.setTop (mkF m 46 #[rv a1, .val (.long (accF bs 4)), .second, iv 21, iv (bs 3)] [(.long (accF bs 4))]))
          exact Goes.rJ X27 hx hret hlk (hb hby d11_46) hQQ (by rw [e27]; exact ⟨(by rw [hk3]), N27, K27, (by rw [hk3]; exact Fq3)⟩) (by decide) (by decide)
        · refine Goes.on (fun t k => XS.ifYes X27.here hx rfl (pc0 := 42) (pc' := 47) rfl (hb hby d11_42) rfl ((if0 _ _).trans (tlt (N3x (by omega))).1) (by decide) (by decide) k) ?_
          show Goes p e below QQ (T27.setTop (mkF m 47 #[rv a1, .val (.long (accF bs 4)), .second, iv 21, iv (bs 3)] []))
          refine Goes.on (fun t k => XS.iinc X27.here hx rfl (hb hby d11_47) rfl (l' := #[rv a1, .val (.long (accF bs 4)), .second, iv ((21 : Int32) + (7 : Int32)), iv (bs 3)]) rfl k) ?_
          show Goes p e below QQ (T27.setTop (mkF m 50 #[rv a1, .val (.long (accF bs 4)), .second, iv ((21 : Int32) + (7 : Int32)), iv (bs 3)] []))
          rw [(by decide : ((21 : Int32) + (7 : Int32)) = (28 : Int32))]
          show Goes p e below QQ (T27.setTop (mkF m 50 #[rv a1, .val (.long (accF bs 4)), .second, iv 28, iv (bs 3)] []))
          refine Goes.on (fun t k => XS.goto X27.here hx rfl (pc0 := 50) (pc' := 4) rfl (hb hby d11_50) (by decide) (by decide) k) ?_
          show Goes p e below QQ (T27.setTop (mkF m 4 #[rv a1, .val (.long (accF bs 4)), .second, iv 28, iv (bs 3)] []))
          refine Goes.on (fun t k => XS.iloadN X27.here hx rfl (hb hby d11_4) rfl k) ?_
          show Goes p e below QQ (T27.setTop (mkF m 5 #[rv a1, .val (.long (accF bs 4)), .second, iv 28, iv (bs 3)] [(.int 28)]))
          refine Goes.on (fun t k => XS.bipush X27.here hx rfl (hb hby d11_5) k) ?_
          show Goes p e below QQ (T27.setTop (mkF m 7 #[rv a1, .val (.long (accF bs 4)), .second, iv 28, iv (bs 3)] [(.int 64), (.int 28)]))
          refine Goes.on (fun t k => XS.icmpNo X27.here hx rfl (hb hby d11_7) rfl (tlt (by decide)).2.1 k) ?_
          show Goes p e below QQ (T27.setTop (mkF m 10 #[rv a1, .val (.long (accF bs 4)), .second, iv 28, iv (bs 3)] []))
          have hi4 : 4 < tn := by omega
          obtain ⟨I4, G4, N4x, R4x⟩ := B4 hi4
          refine Goes.on (fun t k => XS.aloadN X27.here hx rfl (hb hby d11_10) rfl rfl k) ?_
          show Goes p e below QQ (T27.setTop (mkF m 11 #[rv a1, .val (.long (accF bs 4)), .second, iv 28, iv (bs 3)] [(.ref a1)]))
          obtain ⟨T33, X33, e33, st33⟩ := getF X27 hx hZ hown (host := "") (Or.inl (hw _ (List.mem_of_getElem? (i := 72) rfl))) Via.refl e27 F_29 (g := (mkF m 11 #[rv a1, .val (.long (accF bs 4)), .second, iv 28, iv (bs 3)] [(.ref a1)])) rfl rfl (hb hby d11_11)
          refine Goes.on (fun t k => st33 t k) ?_
          show Goes p e below QQ (T33.setTop (mkF m 14 #[rv a1, .val (.long (accF bs 4)), .second, iv 28, iv (bs 3)] [(.ref a2)]))
          refine Goes.on (fun t k => XS.aloadN X33.here hx rfl (hb hby d11_14) rfl rfl k) ?_
          show Goes p e below QQ (T33.setTop (mkF m 15 #[rv a1, .val (.long (accF bs 4)), .second, iv 28, iv (bs 3)] [(.ref a1), (.ref a2)]))
          refine Goes.on (fun t k => XS.dup X33.here hx rfl (hb hby d11_15) rfl rfl k) ?_
          show Goes p e below QQ (T33.setTop (mkF m 16 #[rv a1, .val (.long (accF bs 4)), .second, iv 28, iv (bs 3)] [(.ref a1), (.ref a1), (.ref a2)]))
          obtain ⟨T34, X34, e34, st34⟩ := getF X33 hx hZ hown (host := "") (Or.inl (hw _ (List.mem_of_getElem? (i := 74) rfl))) Via.refl e33 Fq3 (g := (mkF m 16 #[rv a1, .val (.long (accF bs 4)), .second, iv 28, iv (bs 3)] [(.ref a1), (.ref a1), (.ref a2)])) rfl rfl (hb hby d11_16)
          refine Goes.on (fun t k => st34 t k) ?_
          show Goes p e below QQ (T34.setTop (mkF m 19 #[rv a1, .val (.long (accF bs 4)), .second, iv 28, iv (bs 3)] [(.int (p1 + (4 : Int32))), (.ref a1), (.ref a2)]))
          refine Goes.on (fun t k => XS.dupX1 X34.here hx rfl (hb hby d11_19) rfl rfl rfl k) ?_
          show Goes p e below QQ (T34.setTop (mkF m 20 #[rv a1, .val (.long (accF bs 4)), .second, iv 28, iv (bs 3)] [(.int (p1 + (4 : Int32))), (.ref a1), (.int (p1 + (4 : Int32))), (.ref a2)]))
          refine Goes.on (fun t k => XS.iconst X34.here hx rfl (hb hby d11_20) k) ?_
          show Goes p e below QQ (T34.setTop (mkF m 21 #[rv a1, .val (.long (accF bs 4)), .second, iv 28, iv (bs 3)] [(.int 1), (.int (p1 + (4 : Int32))), (.ref a1), (.int (p1 + (4 : Int32))), (.ref a2)]))
          refine Goes.on (fun t k => XS.iadd X34.here hx rfl (hb hby d11_21) rfl k) ?_
          show Goes p e below QQ (T34.setTop (mkF m 22 #[rv a1, .val (.long (accF bs 4)), .second, iv 28, iv (bs 3)] [(.int ((p1 + (4 : Int32)) + (1 : Int32))), (.ref a1), (.int (p1 + (4 : Int32))), (.ref a2)]))
          obtain ⟨T35, h35, X35, e35, W35, st35⟩ := putF X34 hx hZ hown (host := "") (Or.inl (hw _ (List.mem_of_getElem? (i := 74) rfl))) Via.refl e34 Fq3 E_28 (Or.inl (hw _ (List.mem_of_getElem? (i := 75) rfl))) (hw _ (List.mem_of_getElem? (i := 11) rfl)) (ty := .int) (by decide) rfl rfl (g := (mkF m 22 #[rv a1, .val (.long (accF bs 4)), .second, iv 28, iv (bs 3)] [(.int ((p1 + (4 : Int32)) + (1 : Int32))), (.ref a1), (.int (p1 + (4 : Int32))), (.ref a2)])) rfl rfl (hb hby d11_22)
          have E_36 := E_28.wr W35
          have F_37 := F_29.other W35 (Or.inr (slot_ne (Or.inr (hw _ (List.mem_of_getElem? (i := 73) rfl))) (Or.inl (hw _ (List.mem_of_getElem? (i := 75) rfl))) (by decide) (t := (.array .byte)) (t' := .int) (by decide) (by decide)))
          have V_38 := V_30.other W35 ne_a2_a1
          have K35 := K27.wr W35 (Or.inl (List.mem_of_getElem? (i := 0) rfl))
          have N35 := Fr.snoc X35 N27 g_a1
          have F_39 : Fld Z h35 a1 "com/example/lendgate/lendgate/circulation/Decoder" "position" "I" (.int ((p1 + (4 : Int32)) + (1 : Int32))) := Fq3.same W35
          refine Goes.on (fun t k => st35 t k) ?_
          show Goes p e below QQ (T35.setTop (mkF m 25 #[rv a1, .val (.long (accF bs 4)), .second, iv 28, iv (bs 3)] [(.int (p1 + (4 : Int32))), (.ref a2)]))
          have Fq4 := F_39
          rw [own_add p1 (4 : Int32) (1 : Int32) (5 : Int32) rfl] at Fq4
          show Goes p e below QQ (T35.setTop (mkF m 25 #[rv a1, .val (.long (accF bs 4)), .second, iv 28, iv (bs 3)] [(.int (p1 + (4 : Int32))), (.ref a2)]))
          obtain ⟨cl40, Ar40, aq40, aS40, aN40, aH40, aG40⟩ := id V_38
          have hin40 := inb_of (j := (p1 + (4 : Int32))) aS40 I4
          have hat40 := Has.at (v := (.int (bs 4))) aH40 hin40 G4
          refine Goes.on (fun t k => X35.baloadBytes hx (j := (p1 + (4 : Int32))) (v := (.int (bs 4))) (by rw [e35]; exact Ar40.1) (State.isArrayOf_alike hZ.alike Ar40.2.1) Ar40.2.2 hin40 hat40 (g := (mkF m 25 #[rv a1, .val (.long (accF bs 4)), .second, iv 28, iv (bs 3)] [(.int (p1 + (4 : Int32))), (.ref a2)])) rfl rfl (hb hby d11_25) t k) ?_
          show Goes p e below QQ (T35.setTop (mkF m 26 #[rv a1, .val (.long (accF bs 4)), .second, iv 28, iv (bs 3)] [(.int (bs 4))]))
          refine Goes.on (fun t k => XS.istore X35.here hx rfl (hb hby d11_26) rfl (l' := #[rv a1, .val (.long (accF bs 4)), .second, iv 28, iv (bs 4)]) rfl k) ?_
          show Goes p e below QQ (T35.setTop (mkF m 28 #[rv a1, .val (.long (accF bs 4)), .second, iv 28, iv (bs 4)] []))
          refine Goes.on (fun t k => XS.lloadN X35.here hx rfl (hb hby d11_28) rfl k) ?_
          show Goes p e below QQ (T35.setTop (mkF m 29 #[rv a1, .val (.long (accF bs 4)), .second, iv 28, iv (bs 4)] [(.long (accF bs 4))]))
          refine Goes.on (fun t k => XS.iload X35.here hx rfl (hb hby d11_29) rfl k) ?_
          show Goes p e below QQ (T35.setTop (mkF m 31 #[rv a1, .val (.long (accF bs 4)), .second, iv 28, iv (bs 4)] [(.int (bs 4)), (.long (accF bs 4))]))
          refine Goes.on (fun t k => XS.i2l X35.here hx rfl (hb hby d11_31) rfl k) ?_
          show Goes p e below QQ (T35.setTop (mkF m 32 #[rv a1, .val (.long (accF bs 4)), .second, iv 28, iv (bs 4)] [(.long (bs 4).toInt64), (.long (accF bs 4))]))
          refine Goes.on (fun t k => X35.ldc2Long hx hown (mvT hZ (hw _ (List.mem_of_getElem? (i := 81) rfl))) (g := (mkF m 32 #[rv a1, .val (.long (accF bs 4)), .second, iv 28, iv (bs 4)] [(.long (bs 4).toInt64), (.long (accF bs 4))])) rfl (hb hby d11_32) t k) ?_
          show Goes p e below QQ (T35.setTop (mkF m 35 #[rv a1, .val (.long (accF bs 4)), .second, iv 28, iv (bs 4)] [(.long (127 : Int64)), (.long (bs 4).toInt64), (.long (accF bs 4))]))
          refine Goes.on (fun t k => XS.land X35.here hx rfl (hb hby d11_35) rfl k) ?_
          show Goes p e below QQ (T35.setTop (mkF m 36 #[rv a1, .val (.long (accF bs 4)), .second, iv 28, iv (bs 4)] [(.long ((bs 4).toInt64 &&& (127 : Int64))), (.long (accF bs 4))]))
          refine Goes.on (fun t k => XS.iloadN X35.here hx rfl (hb hby d11_36) rfl k) ?_
          show Goes p e below QQ (T35.setTop (mkF m 37 #[rv a1, .val (.long (accF bs 4)), .second, iv 28, iv (bs 4)] [(.int 28), (.long ((bs 4).toInt64 &&& (127 : Int64))), (.long (accF bs 4))]))
          refine Goes.on (fun t k => XS.lshl X35.here hx rfl (hb hby d11_37) rfl k) ?_
          show Goes p e below QQ (T35.setTop (mkF m 38 #[rv a1, .val (.long (accF bs 4)), .second, iv 28, iv (bs 4)] [(.long (((bs 4).toInt64 &&& (127 : Int64)) <<< ((28 : Int32) &&& 0x3f).toInt64)), (.long (accF bs 4))]))
          refine Goes.on (fun t k => XS.lor X35.here hx rfl (hb hby d11_38) rfl k) ?_
          show Goes p e below QQ (T35.setTop (mkF m 39 #[rv a1, .val (.long (accF bs 4)), .second, iv 28, iv (bs 4)] [(.long ((accF bs 4) ||| (((bs 4).toInt64 &&& (127 : Int64)) <<< ((28 : Int32) &&& 0x3f).toInt64)))]))
          refine Goes.on (fun t k => XS.lstoreN X35.here hx rfl (hb hby d11_39) rfl (l' := #[rv a1, .val (.long ((accF bs 4) ||| (((bs 4).toInt64 &&& (127 : Int64)) <<< ((28 : Int32) &&& 0x3f).toInt64))), .second, iv 28, iv (bs 4)]) rfl k) ?_
          show Goes p e below QQ (T35.setTop (mkF m 40 #[rv a1, .val (.long ((accF bs 4) ||| (((bs 4).toInt64 &&& (127 : Int64)) <<< ((28 : Int32) &&& 0x3f).toInt64))), .second, iv 28, iv (bs 4)] []))
          rw [own_acc4 bs]
          show Goes p e below QQ (T35.setTop (mkF m 40 #[rv a1, .val (.long (accF bs 5)), .second, iv 28, iv (bs 4)] []))
          refine Goes.on (fun t k => XS.iload X35.here hx rfl (hb hby d11_40) rfl k) ?_
          show Goes p e below QQ (T35.setTop (mkF m 42 #[rv a1, .val (.long (accF bs 5)), .second, iv 28, iv (bs 4)] [(.int (bs 4))]))
          by_cases hk4 : tn = 5
          · refine Goes.on (fun t k => XS.ifNo X35.here hx rfl (hb hby d11_42) rfl ((if0 _ _).trans (flt (R4x (by omega))).1) k) ?_
            show Goes p e below QQ (T35.setTop (mkF m 45 #[rv a1, .val (.long (accF bs 5)), .second, iv 28, iv (bs 4)] []))
            refine Goes.on (fun t k => XS.lloadN X35.here hx rfl (hb hby d11_45) rfl k) ?_
            show Goes p e below QQ (T35.setTop (mkF m 46 #[rv a1, .val (.long (accF bs 5)), .second, iv 28, iv (bs 4)] [(.long (accF bs 5))]))
            exact Goes.rJ X35 hx hret hlk (hb hby d11_46) hQQ (by rw [e35]; exact ⟨(by rw [hk4]), N35, K35, (by rw [hk4]; exact Fq4)⟩) (by decide) (by decide)
          · refine Goes.on (fun t k => XS.ifYes X35.here hx rfl (pc0 := 42) (pc' := 47) rfl (hb hby d11_42) rfl ((if0 _ _).trans (tlt (N4x (by omega))).1) (by decide) (by decide) k) ?_
            show Goes p e below QQ (T35.setTop (mkF m 47 #[rv a1, .val (.long (accF bs 5)), .second, iv 28, iv (bs 4)] []))
            refine Goes.on (fun t k => XS.iinc X35.here hx rfl (hb hby d11_47) rfl (l' := #[rv a1, .val (.long (accF bs 5)), .second, iv ((28 : Int32) + (7 : Int32)), iv (bs 4)]) rfl k) ?_
            show Goes p e below QQ (T35.setTop (mkF m 50 #[rv a1, .val (.long (accF bs 5)), .second, iv ((28 : Int32) + (7 : Int32)), iv (bs 4)] []))
            rw [(by decide : ((28 : Int32) + (7 : Int32)) = (35 : Int32))]
            show Goes p e below QQ (T35.setTop (mkF m 50 #[rv a1, .val (.long (accF bs 5)), .second, iv 35, iv (bs 4)] []))
            refine Goes.on (fun t k => XS.goto X35.here hx rfl (pc0 := 50) (pc' := 4) rfl (hb hby d11_50) (by decide) (by decide) k) ?_
            show Goes p e below QQ (T35.setTop (mkF m 4 #[rv a1, .val (.long (accF bs 5)), .second, iv 35, iv (bs 4)] []))
            refine Goes.on (fun t k => XS.iloadN X35.here hx rfl (hb hby d11_4) rfl k) ?_
            show Goes p e below QQ (T35.setTop (mkF m 5 #[rv a1, .val (.long (accF bs 5)), .second, iv 35, iv (bs 4)] [(.int 35)]))
            refine Goes.on (fun t k => XS.bipush X35.here hx rfl (hb hby d11_5) k) ?_
            show Goes p e below QQ (T35.setTop (mkF m 7 #[rv a1, .val (.long (accF bs 5)), .second, iv 35, iv (bs 4)] [(.int 64), (.int 35)]))
            refine Goes.on (fun t k => XS.icmpNo X35.here hx rfl (hb hby d11_7) rfl (tlt (by decide)).2.1 k) ?_
            show Goes p e below QQ (T35.setTop (mkF m 10 #[rv a1, .val (.long (accF bs 5)), .second, iv 35, iv (bs 4)] []))
            have hi5 : 5 < tn := by omega
            obtain ⟨I5, G5, N5x, R5x⟩ := B5 hi5
            refine Goes.on (fun t k => XS.aloadN X35.here hx rfl (hb hby d11_10) rfl rfl k) ?_
            show Goes p e below QQ (T35.setTop (mkF m 11 #[rv a1, .val (.long (accF bs 5)), .second, iv 35, iv (bs 4)] [(.ref a1)]))
            obtain ⟨T41, X41, e41, st41⟩ := getF X35 hx hZ hown (host := "") (Or.inl (hw _ (List.mem_of_getElem? (i := 72) rfl))) Via.refl e35 F_37 (g := (mkF m 11 #[rv a1, .val (.long (accF bs 5)), .second, iv 35, iv (bs 4)] [(.ref a1)])) rfl rfl (hb hby d11_11)
            refine Goes.on (fun t k => st41 t k) ?_
            show Goes p e below QQ (T41.setTop (mkF m 14 #[rv a1, .val (.long (accF bs 5)), .second, iv 35, iv (bs 4)] [(.ref a2)]))
            refine Goes.on (fun t k => XS.aloadN X41.here hx rfl (hb hby d11_14) rfl rfl k) ?_
            show Goes p e below QQ (T41.setTop (mkF m 15 #[rv a1, .val (.long (accF bs 5)), .second, iv 35, iv (bs 4)] [(.ref a1), (.ref a2)]))
            refine Goes.on (fun t k => XS.dup X41.here hx rfl (hb hby d11_15) rfl rfl k) ?_
            show Goes p e below QQ (T41.setTop (mkF m 16 #[rv a1, .val (.long (accF bs 5)), .second, iv 35, iv (bs 4)] [(.ref a1), (.ref a1), (.ref a2)]))
            obtain ⟨T42, X42, e42, st42⟩ := getF X41 hx hZ hown (host := "") (Or.inl (hw _ (List.mem_of_getElem? (i := 74) rfl))) Via.refl e41 Fq4 (g := (mkF m 16 #[rv a1, .val (.long (accF bs 5)), .second, iv 35, iv (bs 4)] [(.ref a1), (.ref a1), (.ref a2)])) rfl rfl (hb hby d11_16)
            refine Goes.on (fun t k => st42 t k) ?_
            show Goes p e below QQ (T42.setTop (mkF m 19 #[rv a1, .val (.long (accF bs 5)), .second, iv 35, iv (bs 4)] [(.int (p1 + (5 : Int32))), (.ref a1), (.ref a2)]))
            refine Goes.on (fun t k => XS.dupX1 X42.here hx rfl (hb hby d11_19) rfl rfl rfl k) ?_
            show Goes p e below QQ (T42.setTop (mkF m 20 #[rv a1, .val (.long (accF bs 5)), .second, iv 35, iv (bs 4)] [(.int (p1 + (5 : Int32))), (.ref a1), (.int (p1 + (5 : Int32))), (.ref a2)]))
            refine Goes.on (fun t k => XS.iconst X42.here hx rfl (hb hby d11_20) k) ?_
            show Goes p e below QQ (T42.setTop (mkF m 21 #[rv a1, .val (.long (accF bs 5)), .second, iv 35, iv (bs 4)] [(.int 1), (.int (p1 + (5 : Int32))), (.ref a1), (.int (p1 + (5 : Int32))), (.ref a2)]))
            refine Goes.on (fun t k => XS.iadd X42.here hx rfl (hb hby d11_21) rfl k) ?_
            show Goes p e below QQ (T42.setTop (mkF m 22 #[rv a1, .val (.long (accF bs 5)), .second, iv 35, iv (bs 4)] [(.int ((p1 + (5 : Int32)) + (1 : Int32))), (.ref a1), (.int (p1 + (5 : Int32))), (.ref a2)]))
            obtain ⟨T43, h43, X43, e43, W43, st43⟩ := putF X42 hx hZ hown (host := "") (Or.inl (hw _ (List.mem_of_getElem? (i := 74) rfl))) Via.refl e42 Fq4 E_36 (Or.inl (hw _ (List.mem_of_getElem? (i := 75) rfl))) (hw _ (List.mem_of_getElem? (i := 11) rfl)) (ty := .int) (by decide) rfl rfl (g := (mkF m 22 #[rv a1, .val (.long (accF bs 5)), .second, iv 35, iv (bs 4)] [(.int ((p1 + (5 : Int32)) + (1 : Int32))), (.ref a1), (.int (p1 + (5 : Int32))), (.ref a2)])) rfl rfl (hb hby d11_22)
            have E_44 := E_36.wr W43
            have F_45 := F_37.other W43 (Or.inr (slot_ne (Or.inr (hw _ (List.mem_of_getElem? (i := 73) rfl))) (Or.inl (hw _ (List.mem_of_getElem? (i := 75) rfl))) (by decide) (t := (.array .byte)) (t' := .int) (by decide) (by decide)))
            have V_46 := V_38.other W43 ne_a2_a1
            have K43 := K35.wr W43 (Or.inl (List.mem_of_getElem? (i := 0) rfl))
            have N43 := Fr.snoc X43 N35 g_a1
            have F_47 : Fld Z h43 a1 "com/example/lendgate/lendgate/circulation/Decoder" "position" "I" (.int ((p1 + (5 : Int32)) + (1 : Int32))) := Fq4.same W43
            refine Goes.on (fun t k => st43 t k) ?_
            show Goes p e below QQ (T43.setTop (mkF m 25 #[rv a1, .val (.long (accF bs 5)), .second, iv 35, iv (bs 4)] [(.int (p1 + (5 : Int32))), (.ref a2)]))
            have Fq5 := F_47
            rw [own_add p1 (5 : Int32) (1 : Int32) (6 : Int32) rfl] at Fq5
            show Goes p e below QQ (T43.setTop (mkF m 25 #[rv a1, .val (.long (accF bs 5)), .second, iv 35, iv (bs 4)] [(.int (p1 + (5 : Int32))), (.ref a2)]))
            obtain ⟨cl48, Ar48, aq48, aS48, aN48, aH48, aG48⟩ := id V_46
            have hin48 := inb_of (j := (p1 + (5 : Int32))) aS48 I5
            have hat48 := Has.at (v := (.int (bs 5))) aH48 hin48 G5
            refine Goes.on (fun t k => X43.baloadBytes hx (j := (p1 + (5 : Int32))) (v := (.int (bs 5))) (by rw [e43]; exact Ar48.1) (State.isArrayOf_alike hZ.alike Ar48.2.1) Ar48.2.2 hin48 hat48 (g := (mkF m 25 #[rv a1, .val (.long (accF bs 5)), .second, iv 35, iv (bs 4)] [(.int (p1 + (5 : Int32))), (.ref a2)])) rfl rfl (hb hby d11_25) t k) ?_
            show Goes p e below QQ (T43.setTop (mkF m 26 #[rv a1, .val (.long (accF bs 5)), .second, iv 35, iv (bs 4)] [(.int (bs 5))]))
            refine Goes.on (fun t k => XS.istore X43.here hx rfl (hb hby d11_26) rfl (l' := #[rv a1, .val (.long (accF bs 5)), .second, iv 35, iv (bs 5)]) rfl k) ?_
            show Goes p e below QQ (T43.setTop (mkF m 28 #[rv a1, .val (.long (accF bs 5)), .second, iv 35, iv (bs 5)] []))
            refine Goes.on (fun t k => XS.lloadN X43.here hx rfl (hb hby d11_28) rfl k) ?_
            show Goes p e below QQ (T43.setTop (mkF m 29 #[rv a1, .val (.long (accF bs 5)), .second, iv 35, iv (bs 5)] [(.long (accF bs 5))]))
            refine Goes.on (fun t k => XS.iload X43.here hx rfl (hb hby d11_29) rfl k) ?_
            show Goes p e below QQ (T43.setTop (mkF m 31 #[rv a1, .val (.long (accF bs 5)), .second, iv 35, iv (bs 5)] [(.int (bs 5)), (.long (accF bs 5))]))
            refine Goes.on (fun t k => XS.i2l X43.here hx rfl (hb hby d11_31) rfl k) ?_
            show Goes p e below QQ (T43.setTop (mkF m 32 #[rv a1, .val (.long (accF bs 5)), .second, iv 35, iv (bs 5)] [(.long (bs 5).toInt64), (.long (accF bs 5))]))
            refine Goes.on (fun t k => X43.ldc2Long hx hown (mvT hZ (hw _ (List.mem_of_getElem? (i := 81) rfl))) (g := (mkF m 32 #[rv a1, .val (.long (accF bs 5)), .second, iv 35, iv (bs 5)] [(.long (bs 5).toInt64), (.long (accF bs 5))])) rfl (hb hby d11_32) t k) ?_
            show Goes p e below QQ (T43.setTop (mkF m 35 #[rv a1, .val (.long (accF bs 5)), .second, iv 35, iv (bs 5)] [(.long (127 : Int64)), (.long (bs 5).toInt64), (.long (accF bs 5))]))
            refine Goes.on (fun t k => XS.land X43.here hx rfl (hb hby d11_35) rfl k) ?_
            show Goes p e below QQ (T43.setTop (mkF m 36 #[rv a1, .val (.long (accF bs 5)), .second, iv 35, iv (bs 5)] [(.long ((bs 5).toInt64 &&& (127 : Int64))), (.long (accF bs 5))]))
            refine Goes.on (fun t k => XS.iloadN X43.here hx rfl (hb hby d11_36) rfl k) ?_
            show Goes p e below QQ (T43.setTop (mkF m 37 #[rv a1, .val (.long (accF bs 5)), .second, iv 35, iv (bs 5)] [(.int 35), (.long ((bs 5).toInt64 &&& (127 : Int64))), (.long (accF bs 5))]))
            refine Goes.on (fun t k => XS.lshl X43.here hx rfl (hb hby d11_37) rfl k) ?_
            show Goes p e below QQ (T43.setTop (mkF m 38 #[rv a1, .val (.long (accF bs 5)), .second, iv 35, iv (bs 5)] [(.long (((bs 5).toInt64 &&& (127 : Int64)) <<< ((35 : Int32) &&& 0x3f).toInt64)), (.long (accF bs 5))]))
            refine Goes.on (fun t k => XS.lor X43.here hx rfl (hb hby d11_38) rfl k) ?_
            show Goes p e below QQ (T43.setTop (mkF m 39 #[rv a1, .val (.long (accF bs 5)), .second, iv 35, iv (bs 5)] [(.long ((accF bs 5) ||| (((bs 5).toInt64 &&& (127 : Int64)) <<< ((35 : Int32) &&& 0x3f).toInt64)))]))
            refine Goes.on (fun t k => XS.lstoreN X43.here hx rfl (hb hby d11_39) rfl (l' := #[rv a1, .val (.long ((accF bs 5) ||| (((bs 5).toInt64 &&& (127 : Int64)) <<< ((35 : Int32) &&& 0x3f).toInt64))), .second, iv 35, iv (bs 5)]) rfl k) ?_
            show Goes p e below QQ (T43.setTop (mkF m 40 #[rv a1, .val (.long ((accF bs 5) ||| (((bs 5).toInt64 &&& (127 : Int64)) <<< ((35 : Int32) &&& 0x3f).toInt64))), .second, iv 35, iv (bs 5)] []))
            rw [own_acc5 bs]
            show Goes p e below QQ (T43.setTop (mkF m 40 #[rv a1, .val (.long (accF bs 6)), .second, iv 35, iv (bs 5)] []))
            refine Goes.on (fun t k => XS.iload X43.here hx rfl (hb hby d11_40) rfl k) ?_
            show Goes p e below QQ (T43.setTop (mkF m 42 #[rv a1, .val (.long (accF bs 6)), .second, iv 35, iv (bs 5)] [(.int (bs 5))]))
            by_cases hk5 : tn = 6
            · refine Goes.on (fun t k => XS.ifNo X43.here hx rfl (hb hby d11_42) rfl ((if0 _ _).trans (flt (R5x (by omega))).1) k) ?_
              show Goes p e below QQ (T43.setTop (mkF m 45 #[rv a1, .val (.long (accF bs 6)), .second, iv 35, iv (bs 5)] []))
              refine Goes.on (fun t k => XS.lloadN X43.here hx rfl (hb hby d11_45) rfl k) ?_
              show Goes p e below QQ (T43.setTop (mkF m 46 #[rv a1, .val (.long (accF bs 6)), .second, iv 35, iv (bs 5)] [(.long (accF bs 6))]))
              exact Goes.rJ X43 hx hret hlk (hb hby d11_46) hQQ (by rw [e43]; exact ⟨(by rw [hk5]), N43, K43, (by rw [hk5]; exact Fq5)⟩) (by decide) (by decide)
            · refine Goes.on (fun t k => XS.ifYes X43.here hx rfl (pc0 := 42) (pc' := 47) rfl (hb hby d11_42) rfl ((if0 _ _).trans (tlt (N5x (by omega))).1) (by decide) (by decide) k) ?_
              show Goes p e below QQ (T43.setTop (mkF m 47 #[rv a1, .val (.long (accF bs 6)), .second, iv 35, iv (bs 5)] []))
              refine Goes.on (fun t k => XS.iinc X43.here hx rfl (hb hby d11_47) rfl (l' := #[rv a1, .val (.long (accF bs 6)), .second, iv ((35 : Int32) + (7 : Int32)), iv (bs 5)]) rfl k) ?_
              show Goes p e below QQ (T43.setTop (mkF m 50 #[rv a1, .val (.long (accF bs 6)), .second, iv ((35 : Int32) + (7 : Int32)), iv (bs 5)] []))
              rw [(by decide : ((35 : Int32) + (7 : Int32)) = (42 : Int32))]
              show Goes p e below QQ (T43.setTop (mkF m 50 #[rv a1, .val (.long (accF bs 6)), .second, iv 42, iv (bs 5)] []))
              refine Goes.on (fun t k => XS.goto X43.here hx rfl (pc0 := 50) (pc' := 4) rfl (hb hby d11_50) (by decide) (by decide) k) ?_
              show Goes p e below QQ (T43.setTop (mkF m 4 #[rv a1, .val (.long (accF bs 6)), .second, iv 42, iv (bs 5)] []))
              refine Goes.on (fun t k => XS.iloadN X43.here hx rfl (hb hby d11_4) rfl k) ?_
              show Goes p e below QQ (T43.setTop (mkF m 5 #[rv a1, .val (.long (accF bs 6)), .second, iv 42, iv (bs 5)] [(.int 42)]))
              refine Goes.on (fun t k => XS.bipush X43.here hx rfl (hb hby d11_5) k) ?_
              show Goes p e below QQ (T43.setTop (mkF m 7 #[rv a1, .val (.long (accF bs 6)), .second, iv 42, iv (bs 5)] [(.int 64), (.int 42)]))
              refine Goes.on (fun t k => XS.icmpNo X43.here hx rfl (hb hby d11_7) rfl (tlt (by decide)).2.1 k) ?_
              show Goes p e below QQ (T43.setTop (mkF m 10 #[rv a1, .val (.long (accF bs 6)), .second, iv 42, iv (bs 5)] []))
              have hi6 : 6 < tn := by omega
              obtain ⟨I6, G6, N6x, R6x⟩ := B6 hi6
              refine Goes.on (fun t k => XS.aloadN X43.here hx rfl (hb hby d11_10) rfl rfl k) ?_
              show Goes p e below QQ (T43.setTop (mkF m 11 #[rv a1, .val (.long (accF bs 6)), .second, iv 42, iv (bs 5)] [(.ref a1)]))
              obtain ⟨T49, X49, e49, st49⟩ := getF X43 hx hZ hown (host := "") (Or.inl (hw _ (List.mem_of_getElem? (i := 72) rfl))) Via.refl e43 F_45 (g := (mkF m 11 #[rv a1, .val (.long (accF bs 6)), .second, iv 42, iv (bs 5)] [(.ref a1)])) rfl rfl (hb hby d11_11)
              refine Goes.on (fun t k => st49 t k) ?_
              show Goes p e below QQ (T49.setTop (mkF m 14 #[rv a1, .val (.long (accF bs 6)), .second, iv 42, iv (bs 5)] [(.ref a2)]))
              refine Goes.on (fun t k => XS.aloadN X49.here hx rfl (hb hby d11_14) rfl rfl k) ?_
              show Goes p e below QQ (T49.setTop (mkF m 15 #[rv a1, .val (.long (accF bs 6)), .second, iv 42, iv (bs 5)] [(.ref a1), (.ref a2)]))
              refine Goes.on (fun t k => XS.dup X49.here hx rfl (hb hby d11_15) rfl rfl k) ?_
              show Goes p e below QQ (T49.setTop (mkF m 16 #[rv a1, .val (.long (accF bs 6)), .second, iv 42, iv (bs 5)] [(.ref a1), (.ref a1), (.ref a2)]))
              obtain ⟨T50, X50, e50, st50⟩ := getF X49 hx hZ hown (host := "") (Or.inl (hw _ (List.mem_of_getElem? (i := 74) rfl))) Via.refl e49 Fq5 (g := (mkF m 16 #[rv a1, .val (.long (accF bs 6)), .second, iv 42, iv (bs 5)] [(.ref a1), (.ref a1), (.ref a2)])) rfl rfl (hb hby d11_16)
              refine Goes.on (fun t k => st50 t k) ?_
              show Goes p e below QQ (T50.setTop (mkF m 19 #[rv a1, .val (.long (accF bs 6)), .second, iv 42, iv (bs 5)] [(.int (p1 + (6 : Int32))), (.ref a1), (.ref a2)]))
              refine Goes.on (fun t k => XS.dupX1 X50.here hx rfl (hb hby d11_19) rfl rfl rfl k) ?_
              show Goes p e below QQ (T50.setTop (mkF m 20 #[rv a1, .val (.long (accF bs 6)), .second, iv 42, iv (bs 5)] [(.int (p1 + (6 : Int32))), (.ref a1), (.int (p1 + (6 : Int32))), (.ref a2)]))
              refine Goes.on (fun t k => XS.iconst X50.here hx rfl (hb hby d11_20) k) ?_
              show Goes p e below QQ (T50.setTop (mkF m 21 #[rv a1, .val (.long (accF bs 6)), .second, iv 42, iv (bs 5)] [(.int 1), (.int (p1 + (6 : Int32))), (.ref a1), (.int (p1 + (6 : Int32))), (.ref a2)]))
              refine Goes.on (fun t k => XS.iadd X50.here hx rfl (hb hby d11_21) rfl k) ?_
              show Goes p e below QQ (T50.setTop (mkF m 22 #[rv a1, .val (.long (accF bs 6)), .second, iv 42, iv (bs 5)] [(.int ((p1 + (6 : Int32)) + (1 : Int32))), (.ref a1), (.int (p1 + (6 : Int32))), (.ref a2)]))
              obtain ⟨T51, h51, X51, e51, W51, st51⟩ := putF X50 hx hZ hown (host := "") (Or.inl (hw _ (List.mem_of_getElem? (i := 74) rfl))) Via.refl e50 Fq5 E_44 (Or.inl (hw _ (List.mem_of_getElem? (i := 75) rfl))) (hw _ (List.mem_of_getElem? (i := 11) rfl)) (ty := .int) (by decide) rfl rfl (g := (mkF m 22 #[rv a1, .val (.long (accF bs 6)), .second, iv 42, iv (bs 5)] [(.int ((p1 + (6 : Int32)) + (1 : Int32))), (.ref a1), (.int (p1 + (6 : Int32))), (.ref a2)])) rfl rfl (hb hby d11_22)
              have E_52 := E_44.wr W51
              have F_53 := F_45.other W51 (Or.inr (slot_ne (Or.inr (hw _ (List.mem_of_getElem? (i := 73) rfl))) (Or.inl (hw _ (List.mem_of_getElem? (i := 75) rfl))) (by decide) (t := (.array .byte)) (t' := .int) (by decide) (by decide)))
              have V_54 := V_46.other W51 ne_a2_a1
              have K51 := K43.wr W51 (Or.inl (List.mem_of_getElem? (i := 0) rfl))
              have N51 := Fr.snoc X51 N43 g_a1
              have F_55 : Fld Z h51 a1 "com/example/lendgate/lendgate/circulation/Decoder" "position" "I" (.int ((p1 + (6 : Int32)) + (1 : Int32))) := Fq5.same W51
              refine Goes.on (fun t k => st51 t k) ?_
              show Goes p e below QQ (T51.setTop (mkF m 25 #[rv a1, .val (.long (accF bs 6)), .second, iv 42, iv (bs 5)] [(.int (p1 + (6 : Int32))), (.ref a2)]))
              have Fq6 := F_55
              rw [own_add p1 (6 : Int32) (1 : Int32) (7 : Int32) rfl] at Fq6
              show Goes p e below QQ (T51.setTop (mkF m 25 #[rv a1, .val (.long (accF bs 6)), .second, iv 42, iv (bs 5)] [(.int (p1 + (6 : Int32))), (.ref a2)]))
              obtain ⟨cl56, Ar56, aq56, aS56, aN56, aH56, aG56⟩ := id V_54
              have hin56 := inb_of (j := (p1 + (6 : Int32))) aS56 I6
              have hat56 := Has.at (v := (.int (bs 6))) aH56 hin56 G6
              refine Goes.on (fun t k => X51.baloadBytes hx (j := (p1 + (6 : Int32))) (v := (.int (bs 6))) (by rw [e51]; exact Ar56.1) (State.isArrayOf_alike hZ.alike Ar56.2.1) Ar56.2.2 hin56 hat56 (g := (mkF m 25 #[rv a1, .val (.long (accF bs 6)), .second, iv 42, iv (bs 5)] [(.int (p1 + (6 : Int32))), (.ref a2)])) rfl rfl (hb hby d11_25) t k) ?_
              show Goes p e below QQ (T51.setTop (mkF m 26 #[rv a1, .val (.long (accF bs 6)), .second, iv 42, iv (bs 5)] [(.int (bs 6))]))
              refine Goes.on (fun t k => XS.istore X51.here hx rfl (hb hby d11_26) rfl (l' := #[rv a1, .val (.long (accF bs 6)), .second, iv 42, iv (bs 6)]) rfl k) ?_
              show Goes p e below QQ (T51.setTop (mkF m 28 #[rv a1, .val (.long (accF bs 6)), .second, iv 42, iv (bs 6)] []))
              refine Goes.on (fun t k => XS.lloadN X51.here hx rfl (hb hby d11_28) rfl k) ?_
              show Goes p e below QQ (T51.setTop (mkF m 29 #[rv a1, .val (.long (accF bs 6)), .second, iv 42, iv (bs 6)] [(.long (accF bs 6))]))
              refine Goes.on (fun t k => XS.iload X51.here hx rfl (hb hby d11_29) rfl k) ?_
              show Goes p e below QQ (T51.setTop (mkF m 31 #[rv a1, .val (.long (accF bs 6)), .second, iv 42, iv (bs 6)] [(.int (bs 6)), (.long (accF bs 6))]))
              refine Goes.on (fun t k => XS.i2l X51.here hx rfl (hb hby d11_31) rfl k) ?_
              show Goes p e below QQ (T51.setTop (mkF m 32 #[rv a1, .val (.long (accF bs 6)), .second, iv 42, iv (bs 6)] [(.long (bs 6).toInt64), (.long (accF bs 6))]))
              refine Goes.on (fun t k => X51.ldc2Long hx hown (mvT hZ (hw _ (List.mem_of_getElem? (i := 81) rfl))) (g := (mkF m 32 #[rv a1, .val (.long (accF bs 6)), .second, iv 42, iv (bs 6)] [(.long (bs 6).toInt64), (.long (accF bs 6))])) rfl (hb hby d11_32) t k) ?_
              show Goes p e below QQ (T51.setTop (mkF m 35 #[rv a1, .val (.long (accF bs 6)), .second, iv 42, iv (bs 6)] [(.long (127 : Int64)), (.long (bs 6).toInt64), (.long (accF bs 6))]))
              refine Goes.on (fun t k => XS.land X51.here hx rfl (hb hby d11_35) rfl k) ?_
              show Goes p e below QQ (T51.setTop (mkF m 36 #[rv a1, .val (.long (accF bs 6)), .second, iv 42, iv (bs 6)] [(.long ((bs 6).toInt64 &&& (127 : Int64))), (.long (accF bs 6))]))
              refine Goes.on (fun t k => XS.iloadN X51.here hx rfl (hb hby d11_36) rfl k) ?_
              show Goes p e below QQ (T51.setTop (mkF m 37 #[rv a1, .val (.long (accF bs 6)), .second, iv 42, iv (bs 6)] [(.int 42), (.long ((bs 6).toInt64 &&& (127 : Int64))), (.long (accF bs 6))]))
              refine Goes.on (fun t k => XS.lshl X51.here hx rfl (hb hby d11_37) rfl k) ?_
              show Goes p e below QQ (T51.setTop (mkF m 38 #[rv a1, .val (.long (accF bs 6)), .second, iv 42, iv (bs 6)] [(.long (((bs 6).toInt64 &&& (127 : Int64)) <<< ((42 : Int32) &&& 0x3f).toInt64)), (.long (accF bs 6))]))
              refine Goes.on (fun t k => XS.lor X51.here hx rfl (hb hby d11_38) rfl k) ?_
              show Goes p e below QQ (T51.setTop (mkF m 39 #[rv a1, .val (.long (accF bs 6)), .second, iv 42, iv (bs 6)] [(.long ((accF bs 6) ||| (((bs 6).toInt64 &&& (127 : Int64)) <<< ((42 : Int32) &&& 0x3f).toInt64)))]))
              refine Goes.on (fun t k => XS.lstoreN X51.here hx rfl (hb hby d11_39) rfl (l' := #[rv a1, .val (.long ((accF bs 6) ||| (((bs 6).toInt64 &&& (127 : Int64)) <<< ((42 : Int32) &&& 0x3f).toInt64))), .second, iv 42, iv (bs 6)]) rfl k) ?_
              show Goes p e below QQ (T51.setTop (mkF m 40 #[rv a1, .val (.long ((accF bs 6) ||| (((bs 6).toInt64 &&& (127 : Int64)) <<< ((42 : Int32) &&& 0x3f).toInt64))), .second, iv 42, iv (bs 6)] []))
              rw [own_acc6 bs]
              show Goes p e below QQ (T51.setTop (mkF m 40 #[rv a1, .val (.long (accF bs 7)), .second, iv 42, iv (bs 6)] []))
              refine Goes.on (fun t k => XS.iload X51.here hx rfl (hb hby d11_40) rfl k) ?_
              show Goes p e below QQ (T51.setTop (mkF m 42 #[rv a1, .val (.long (accF bs 7)), .second, iv 42, iv (bs 6)] [(.int (bs 6))]))
              by_cases hk6 : tn = 7
              · refine Goes.on (fun t k => XS.ifNo X51.here hx rfl (hb hby d11_42) rfl ((if0 _ _).trans (flt (R6x (by omega))).1) k) ?_
                show Goes p e below QQ (T51.setTop (mkF m 45 #[rv a1, .val (.long (accF bs 7)), .second, iv 42, iv (bs 6)] []))
                refine Goes.on (fun t k => XS.lloadN X51.here hx rfl (hb hby d11_45) rfl k) ?_
                show Goes p e below QQ (T51.setTop (mkF m 46 #[rv a1, .val (.long (accF bs 7)), .second, iv 42, iv (bs 6)] [(.long (accF bs 7))]))
                exact Goes.rJ X51 hx hret hlk (hb hby d11_46) hQQ (by rw [e51]; exact ⟨(by rw [hk6]), N51, K51, (by rw [hk6]; exact Fq6)⟩) (by decide) (by decide)
              · refine Goes.on (fun t k => XS.ifYes X51.here hx rfl (pc0 := 42) (pc' := 47) rfl (hb hby d11_42) rfl ((if0 _ _).trans (tlt (N6x (by omega))).1) (by decide) (by decide) k) ?_
                show Goes p e below QQ (T51.setTop (mkF m 47 #[rv a1, .val (.long (accF bs 7)), .second, iv 42, iv (bs 6)] []))
                refine Goes.on (fun t k => XS.iinc X51.here hx rfl (hb hby d11_47) rfl (l' := #[rv a1, .val (.long (accF bs 7)), .second, iv ((42 : Int32) + (7 : Int32)), iv (bs 6)]) rfl k) ?_
                show Goes p e below QQ (T51.setTop (mkF m 50 #[rv a1, .val (.long (accF bs 7)), .second, iv ((42 : Int32) + (7 : Int32)), iv (bs 6)] []))
                rw [(by decide : ((42 : Int32) + (7 : Int32)) = (49 : Int32))]
                show Goes p e below QQ (T51.setTop (mkF m 50 #[rv a1, .val (.long (accF bs 7)), .second, iv 49, iv (bs 6)] []))
                refine Goes.on (fun t k => XS.goto X51.here hx rfl (pc0 := 50) (pc' := 4) rfl (hb hby d11_50) (by decide) (by decide) k) ?_
                show Goes p e below QQ (T51.setTop (mkF m 4 #[rv a1, .val (.long (accF bs 7)), .second, iv 49, iv (bs 6)] []))
                refine Goes.on (fun t k => XS.iloadN X51.here hx rfl (hb hby d11_4) rfl k) ?_
                show Goes p e below QQ (T51.setTop (mkF m 5 #[rv a1, .val (.long (accF bs 7)), .second, iv 49, iv (bs 6)] [(.int 49)]))
                refine Goes.on (fun t k => XS.bipush X51.here hx rfl (hb hby d11_5) k) ?_
                show Goes p e below QQ (T51.setTop (mkF m 7 #[rv a1, .val (.long (accF bs 7)), .second, iv 49, iv (bs 6)] [(.int 64), (.int 49)]))
                refine Goes.on (fun t k => XS.icmpNo X51.here hx rfl (hb hby d11_7) rfl (tlt (by decide)).2.1 k) ?_
                show Goes p e below QQ (T51.setTop (mkF m 10 #[rv a1, .val (.long (accF bs 7)), .second, iv 49, iv (bs 6)] []))
                have hi7 : 7 < tn := by omega
                obtain ⟨I7, G7, N7x, R7x⟩ := B7 hi7
                refine Goes.on (fun t k => XS.aloadN X51.here hx rfl (hb hby d11_10) rfl rfl k) ?_
                show Goes p e below QQ (T51.setTop (mkF m 11 #[rv a1, .val (.long (accF bs 7)), .second, iv 49, iv (bs 6)] [(.ref a1)]))
                obtain ⟨T57, X57, e57, st57⟩ := getF X51 hx hZ hown (host := "") (Or.inl (hw _ (List.mem_of_getElem? (i := 72) rfl))) Via.refl e51 F_53 (g := (mkF m 11 #[rv a1, .val (.long (accF bs 7)), .second, iv 49, iv (bs 6)] [(.ref a1)])) rfl rfl (hb hby d11_11)
                refine Goes.on (fun t k => st57 t k) ?_
                show Goes p e below QQ (T57.setTop (mkF m 14 #[rv a1, .val (.long (accF bs 7)), .second, iv 49, iv (bs 6)] [(.ref a2)]))
                refine Goes.on (fun t k => XS.aloadN X57.here hx rfl (hb hby d11_14) rfl rfl k) ?_
                show Goes p e below QQ (T57.setTop (mkF m 15 #[rv a1, .val (.long (accF bs 7)), .second, iv 49, iv (bs 6)] [(.ref a1), (.ref a2)]))
                refine Goes.on (fun t k => XS.dup X57.here hx rfl (hb hby d11_15) rfl rfl k) ?_
                show Goes p e below QQ (T57.setTop (mkF m 16 #[rv a1, .val (.long (accF bs 7)), .second, iv 49, iv (bs 6)] [(.ref a1), (.ref a1), (.ref a2)]))
                obtain ⟨T58, X58, e58, st58⟩ := getF X57 hx hZ hown (host := "") (Or.inl (hw _ (List.mem_of_getElem? (i := 74) rfl))) Via.refl e57 Fq6 (g := (mkF m 16 #[rv a1, .val (.long (accF bs 7)), .second, iv 49, iv (bs 6)] [(.ref a1), (.ref a1), (.ref a2)])) rfl rfl (hb hby d11_16)
                refine Goes.on (fun t k => st58 t k) ?_
                show Goes p e below QQ (T58.setTop (mkF m 19 #[rv a1, .val (.long (accF bs 7)), .second, iv 49, iv (bs 6)] [(.int (p1 + (7 : Int32))), (.ref a1), (.ref a2)]))
                refine Goes.on (fun t k => XS.dupX1 X58.here hx rfl (hb hby d11_19) rfl rfl rfl k) ?_
                show Goes p e below QQ (T58.setTop (mkF m 20 #[rv a1, .val (.long (accF bs 7)), .second, iv 49, iv (bs 6)] [(.int (p1 + (7 : Int32))), (.ref a1), (.int (p1 + (7 : Int32))), (.ref a2)]))
                refine Goes.on (fun t k => XS.iconst X58.here hx rfl (hb hby d11_20) k) ?_
                show Goes p e below QQ (T58.setTop (mkF m 21 #[rv a1, .val (.long (accF bs 7)), .second, iv 49, iv (bs 6)] [(.int 1), (.int (p1 + (7 : Int32))), (.ref a1), (.int (p1 + (7 : Int32))), (.ref a2)]))
                refine Goes.on (fun t k => XS.iadd X58.here hx rfl (hb hby d11_21) rfl k) ?_
                show Goes p e below QQ (T58.setTop (mkF m 22 #[rv a1, .val (.long (accF bs 7)), .second, iv 49, iv (bs 6)] [(.int ((p1 + (7 : Int32)) + (1 : Int32))), (.ref a1), (.int (p1 + (7 : Int32))), (.ref a2)]))
                obtain ⟨T59, h59, X59, e59, W59, st59⟩ := putF X58 hx hZ hown (host := "") (Or.inl (hw _ (List.mem_of_getElem? (i := 74) rfl))) Via.refl e58 Fq6 E_52 (Or.inl (hw _ (List.mem_of_getElem? (i := 75) rfl))) (hw _ (List.mem_of_getElem? (i := 11) rfl)) (ty := .int) (by decide) rfl rfl (g := (mkF m 22 #[rv a1, .val (.long (accF bs 7)), .second, iv 49, iv (bs 6)] [(.int ((p1 + (7 : Int32)) + (1 : Int32))), (.ref a1), (.int (p1 + (7 : Int32))), (.ref a2)])) rfl rfl (hb hby d11_22)
                have E_60 := E_52.wr W59
                have F_61 := F_53.other W59 (Or.inr (slot_ne (Or.inr (hw _ (List.mem_of_getElem? (i := 73) rfl))) (Or.inl (hw _ (List.mem_of_getElem? (i := 75) rfl))) (by decide) (t := (.array .byte)) (t' := .int) (by decide) (by decide)))
                have V_62 := V_54.other W59 ne_a2_a1
                have K59 := K51.wr W59 (Or.inl (List.mem_of_getElem? (i := 0) rfl))
                have N59 := Fr.snoc X59 N51 g_a1
                have F_63 : Fld Z h59 a1 "com/example/lendgate/lendgate/circulation/Decoder" "position" "I" (.int ((p1 + (7 : Int32)) + (1 : Int32))) := Fq6.same W59
                refine Goes.on (fun t k => st59 t k) ?_
                show Goes p e below QQ (T59.setTop (mkF m 25 #[rv a1, .val (.long (accF bs 7)), .second, iv 49, iv (bs 6)] [(.int (p1 + (7 : Int32))), (.ref a2)]))
                have Fq7 := F_63
                rw [own_add p1 (7 : Int32) (1 : Int32) (8 : Int32) rfl] at Fq7
                show Goes p e below QQ (T59.setTop (mkF m 25 #[rv a1, .val (.long (accF bs 7)), .second, iv 49, iv (bs 6)] [(.int (p1 + (7 : Int32))), (.ref a2)]))
                obtain ⟨cl64, Ar64, aq64, aS64, aN64, aH64, aG64⟩ := id V_62
                have hin64 := inb_of (j := (p1 + (7 : Int32))) aS64 I7
                have hat64 := Has.at (v := (.int (bs 7))) aH64 hin64 G7
                refine Goes.on (fun t k => X59.baloadBytes hx (j := (p1 + (7 : Int32))) (v := (.int (bs 7))) (by rw [e59]; exact Ar64.1) (State.isArrayOf_alike hZ.alike Ar64.2.1) Ar64.2.2 hin64 hat64 (g := (mkF m 25 #[rv a1, .val (.long (accF bs 7)), .second, iv 49, iv (bs 6)] [(.int (p1 + (7 : Int32))), (.ref a2)])) rfl rfl (hb hby d11_25) t k) ?_
                show Goes p e below QQ (T59.setTop (mkF m 26 #[rv a1, .val (.long (accF bs 7)), .second, iv 49, iv (bs 6)] [(.int (bs 7))]))
                refine Goes.on (fun t k => XS.istore X59.here hx rfl (hb hby d11_26) rfl (l' := #[rv a1, .val (.long (accF bs 7)), .second, iv 49, iv (bs 7)]) rfl k) ?_
                show Goes p e below QQ (T59.setTop (mkF m 28 #[rv a1, .val (.long (accF bs 7)), .second, iv 49, iv (bs 7)] []))
                refine Goes.on (fun t k => XS.lloadN X59.here hx rfl (hb hby d11_28) rfl k) ?_
                show Goes p e below QQ (T59.setTop (mkF m 29 #[rv a1, .val (.long (accF bs 7)), .second, iv 49, iv (bs 7)] [(.long (accF bs 7))]))
                refine Goes.on (fun t k => XS.iload X59.here hx rfl (hb hby d11_29) rfl k) ?_
                show Goes p e below QQ (T59.setTop (mkF m 31 #[rv a1, .val (.long (accF bs 7)), .second, iv 49, iv (bs 7)] [(.int (bs 7)), (.long (accF bs 7))]))
                refine Goes.on (fun t k => XS.i2l X59.here hx rfl (hb hby d11_31) rfl k) ?_
                show Goes p e below QQ (T59.setTop (mkF m 32 #[rv a1, .val (.long (accF bs 7)), .second, iv 49, iv (bs 7)] [(.long (bs 7).toInt64), (.long (accF bs 7))]))
                refine Goes.on (fun t k => X59.ldc2Long hx hown (mvT hZ (hw _ (List.mem_of_getElem? (i := 81) rfl))) (g := (mkF m 32 #[rv a1, .val (.long (accF bs 7)), .second, iv 49, iv (bs 7)] [(.long (bs 7).toInt64), (.long (accF bs 7))])) rfl (hb hby d11_32) t k) ?_
                show Goes p e below QQ (T59.setTop (mkF m 35 #[rv a1, .val (.long (accF bs 7)), .second, iv 49, iv (bs 7)] [(.long (127 : Int64)), (.long (bs 7).toInt64), (.long (accF bs 7))]))
                refine Goes.on (fun t k => XS.land X59.here hx rfl (hb hby d11_35) rfl k) ?_
                show Goes p e below QQ (T59.setTop (mkF m 36 #[rv a1, .val (.long (accF bs 7)), .second, iv 49, iv (bs 7)] [(.long ((bs 7).toInt64 &&& (127 : Int64))), (.long (accF bs 7))]))
                refine Goes.on (fun t k => XS.iloadN X59.here hx rfl (hb hby d11_36) rfl k) ?_
                show Goes p e below QQ (T59.setTop (mkF m 37 #[rv a1, .val (.long (accF bs 7)), .second, iv 49, iv (bs 7)] [(.int 49), (.long ((bs 7).toInt64 &&& (127 : Int64))), (.long (accF bs 7))]))
                refine Goes.on (fun t k => XS.lshl X59.here hx rfl (hb hby d11_37) rfl k) ?_
                show Goes p e below QQ (T59.setTop (mkF m 38 #[rv a1, .val (.long (accF bs 7)), .second, iv 49, iv (bs 7)] [(.long (((bs 7).toInt64 &&& (127 : Int64)) <<< ((49 : Int32) &&& 0x3f).toInt64)), (.long (accF bs 7))]))
                refine Goes.on (fun t k => XS.lor X59.here hx rfl (hb hby d11_38) rfl k) ?_
                show Goes p e below QQ (T59.setTop (mkF m 39 #[rv a1, .val (.long (accF bs 7)), .second, iv 49, iv (bs 7)] [(.long ((accF bs 7) ||| (((bs 7).toInt64 &&& (127 : Int64)) <<< ((49 : Int32) &&& 0x3f).toInt64)))]))
                refine Goes.on (fun t k => XS.lstoreN X59.here hx rfl (hb hby d11_39) rfl (l' := #[rv a1, .val (.long ((accF bs 7) ||| (((bs 7).toInt64 &&& (127 : Int64)) <<< ((49 : Int32) &&& 0x3f).toInt64))), .second, iv 49, iv (bs 7)]) rfl k) ?_
                show Goes p e below QQ (T59.setTop (mkF m 40 #[rv a1, .val (.long ((accF bs 7) ||| (((bs 7).toInt64 &&& (127 : Int64)) <<< ((49 : Int32) &&& 0x3f).toInt64))), .second, iv 49, iv (bs 7)] []))
                rw [own_acc7 bs]
                show Goes p e below QQ (T59.setTop (mkF m 40 #[rv a1, .val (.long (accF bs 8)), .second, iv 49, iv (bs 7)] []))
                refine Goes.on (fun t k => XS.iload X59.here hx rfl (hb hby d11_40) rfl k) ?_
                show Goes p e below QQ (T59.setTop (mkF m 42 #[rv a1, .val (.long (accF bs 8)), .second, iv 49, iv (bs 7)] [(.int (bs 7))]))
                by_cases hk7 : tn = 8
                · refine Goes.on (fun t k => XS.ifNo X59.here hx rfl (hb hby d11_42) rfl ((if0 _ _).trans (flt (R7x (by omega))).1) k) ?_
                  show Goes p e below QQ (T59.setTop (mkF m 45 #[rv a1, .val (.long (accF bs 8)), .second, iv 49, iv (bs 7)] []))
                  refine Goes.on (fun t k => XS.lloadN X59.here hx rfl (hb hby d11_45) rfl k) ?_
                  show Goes p e below QQ (T59.setTop (mkF m 46 #[rv a1, .val (.long (accF bs 8)), .second, iv 49, iv (bs 7)] [(.long (accF bs 8))]))
                  exact Goes.rJ X59 hx hret hlk (hb hby d11_46) hQQ (by rw [e59]; exact ⟨(by rw [hk7]), N59, K59, (by rw [hk7]; exact Fq7)⟩) (by decide) (by decide)
                · refine Goes.on (fun t k => XS.ifYes X59.here hx rfl (pc0 := 42) (pc' := 47) rfl (hb hby d11_42) rfl ((if0 _ _).trans (tlt (N7x (by omega))).1) (by decide) (by decide) k) ?_
                  show Goes p e below QQ (T59.setTop (mkF m 47 #[rv a1, .val (.long (accF bs 8)), .second, iv 49, iv (bs 7)] []))
                  refine Goes.on (fun t k => XS.iinc X59.here hx rfl (hb hby d11_47) rfl (l' := #[rv a1, .val (.long (accF bs 8)), .second, iv ((49 : Int32) + (7 : Int32)), iv (bs 7)]) rfl k) ?_
                  show Goes p e below QQ (T59.setTop (mkF m 50 #[rv a1, .val (.long (accF bs 8)), .second, iv ((49 : Int32) + (7 : Int32)), iv (bs 7)] []))
                  rw [(by decide : ((49 : Int32) + (7 : Int32)) = (56 : Int32))]
                  show Goes p e below QQ (T59.setTop (mkF m 50 #[rv a1, .val (.long (accF bs 8)), .second, iv 56, iv (bs 7)] []))
                  refine Goes.on (fun t k => XS.goto X59.here hx rfl (pc0 := 50) (pc' := 4) rfl (hb hby d11_50) (by decide) (by decide) k) ?_
                  show Goes p e below QQ (T59.setTop (mkF m 4 #[rv a1, .val (.long (accF bs 8)), .second, iv 56, iv (bs 7)] []))
                  refine Goes.on (fun t k => XS.iloadN X59.here hx rfl (hb hby d11_4) rfl k) ?_
                  show Goes p e below QQ (T59.setTop (mkF m 5 #[rv a1, .val (.long (accF bs 8)), .second, iv 56, iv (bs 7)] [(.int 56)]))
                  refine Goes.on (fun t k => XS.bipush X59.here hx rfl (hb hby d11_5) k) ?_
                  show Goes p e below QQ (T59.setTop (mkF m 7 #[rv a1, .val (.long (accF bs 8)), .second, iv 56, iv (bs 7)] [(.int 64), (.int 56)]))
                  refine Goes.on (fun t k => XS.icmpNo X59.here hx rfl (hb hby d11_7) rfl (tlt (by decide)).2.1 k) ?_
                  show Goes p e below QQ (T59.setTop (mkF m 10 #[rv a1, .val (.long (accF bs 8)), .second, iv 56, iv (bs 7)] []))
                  have hi8 : 8 < tn := by omega
                  obtain ⟨I8, G8, N8x, R8x⟩ := B8 hi8
                  refine Goes.on (fun t k => XS.aloadN X59.here hx rfl (hb hby d11_10) rfl rfl k) ?_
                  show Goes p e below QQ (T59.setTop (mkF m 11 #[rv a1, .val (.long (accF bs 8)), .second, iv 56, iv (bs 7)] [(.ref a1)]))
                  obtain ⟨T65, X65, e65, st65⟩ := getF X59 hx hZ hown (host := "") (Or.inl (hw _ (List.mem_of_getElem? (i := 72) rfl))) Via.refl e59 F_61 (g := (mkF m 11 #[rv a1, .val (.long (accF bs 8)), .second, iv 56, iv (bs 7)] [(.ref a1)])) rfl rfl (hb hby d11_11)
                  refine Goes.on (fun t k => st65 t k) ?_
                  show Goes p e below QQ (T65.setTop (mkF m 14 #[rv a1, .val (.long (accF bs 8)), .second, iv 56, iv (bs 7)] [(.ref a2)]))
                  refine Goes.on (fun t k => XS.aloadN X65.here hx rfl (hb hby d11_14) rfl rfl k) ?_
                  show Goes p e below QQ (T65.setTop (mkF m 15 #[rv a1, .val (.long (accF bs 8)), .second, iv 56, iv (bs 7)] [(.ref a1), (.ref a2)]))
                  refine Goes.on (fun t k => XS.dup X65.here hx rfl (hb hby d11_15) rfl rfl k) ?_
                  show Goes p e below QQ (T65.setTop (mkF m 16 #[rv a1, .val (.long (accF bs 8)), .second, iv 56, iv (bs 7)] [(.ref a1), (.ref a1), (.ref a2)]))
                  obtain ⟨T66, X66, e66, st66⟩ := getF X65 hx hZ hown (host := "") (Or.inl (hw _ (List.mem_of_getElem? (i := 74) rfl))) Via.refl e65 Fq7 (g := (mkF m 16 #[rv a1, .val (.long (accF bs 8)), .second, iv 56, iv (bs 7)] [(.ref a1), (.ref a1), (.ref a2)])) rfl rfl (hb hby d11_16)
                  refine Goes.on (fun t k => st66 t k) ?_
                  show Goes p e below QQ (T66.setTop (mkF m 19 #[rv a1, .val (.long (accF bs 8)), .second, iv 56, iv (bs 7)] [(.int (p1 + (8 : Int32))), (.ref a1), (.ref a2)]))
                  refine Goes.on (fun t k => XS.dupX1 X66.here hx rfl (hb hby d11_19) rfl rfl rfl k) ?_
                  show Goes p e below QQ (T66.setTop (mkF m 20 #[rv a1, .val (.long (accF bs 8)), .second, iv 56, iv (bs 7)] [(.int (p1 + (8 : Int32))), (.ref a1), (.int (p1 + (8 : Int32))), (.ref a2)]))
                  refine Goes.on (fun t k => XS.iconst X66.here hx rfl (hb hby d11_20) k) ?_
                  show Goes p e below QQ (T66.setTop (mkF m 21 #[rv a1, .val (.long (accF bs 8)), .second, iv 56, iv (bs 7)] [(.int 1), (.int (p1 + (8 : Int32))), (.ref a1), (.int (p1 + (8 : Int32))), (.ref a2)]))
                  refine Goes.on (fun t k => XS.iadd X66.here hx rfl (hb hby d11_21) rfl k) ?_
                  show Goes p e below QQ (T66.setTop (mkF m 22 #[rv a1, .val (.long (accF bs 8)), .second, iv 56, iv (bs 7)] [(.int ((p1 + (8 : Int32)) + (1 : Int32))), (.ref a1), (.int (p1 + (8 : Int32))), (.ref a2)]))
                  obtain ⟨T67, h67, X67, e67, W67, st67⟩ := putF X66 hx hZ hown (host := "") (Or.inl (hw _ (List.mem_of_getElem? (i := 74) rfl))) Via.refl e66 Fq7 E_60 (Or.inl (hw _ (List.mem_of_getElem? (i := 75) rfl))) (hw _ (List.mem_of_getElem? (i := 11) rfl)) (ty := .int) (by decide) rfl rfl (g := (mkF m 22 #[rv a1, .val (.long (accF bs 8)), .second, iv 56, iv (bs 7)] [(.int ((p1 + (8 : Int32)) + (1 : Int32))), (.ref a1), (.int (p1 + (8 : Int32))), (.ref a2)])) rfl rfl (hb hby d11_22)
                  have E_68 := E_60.wr W67
                  have F_69 := F_61.other W67 (Or.inr (slot_ne (Or.inr (hw _ (List.mem_of_getElem? (i := 73) rfl))) (Or.inl (hw _ (List.mem_of_getElem? (i := 75) rfl))) (by decide) (t := (.array .byte)) (t' := .int) (by decide) (by decide)))
                  have V_70 := V_62.other W67 ne_a2_a1
                  have K67 := K59.wr W67 (Or.inl (List.mem_of_getElem? (i := 0) rfl))
                  have N67 := Fr.snoc X67 N59 g_a1
                  have F_71 : Fld Z h67 a1 "com/example/lendgate/lendgate/circulation/Decoder" "position" "I" (.int ((p1 + (8 : Int32)) + (1 : Int32))) := Fq7.same W67
                  refine Goes.on (fun t k => st67 t k) ?_
                  show Goes p e below QQ (T67.setTop (mkF m 25 #[rv a1, .val (.long (accF bs 8)), .second, iv 56, iv (bs 7)] [(.int (p1 + (8 : Int32))), (.ref a2)]))
                  have Fq8 := F_71
                  rw [own_add p1 (8 : Int32) (1 : Int32) (9 : Int32) rfl] at Fq8
                  show Goes p e below QQ (T67.setTop (mkF m 25 #[rv a1, .val (.long (accF bs 8)), .second, iv 56, iv (bs 7)] [(.int (p1 + (8 : Int32))), (.ref a2)]))
                  obtain ⟨cl72, Ar72, aq72, aS72, aN72, aH72, aG72⟩ := id V_70
                  have hin72 := inb_of (j := (p1 + (8 : Int32))) aS72 I8
                  have hat72 := Has.at (v := (.int (bs 8))) aH72 hin72 G8
                  refine Goes.on (fun t k => X67.baloadBytes hx (j := (p1 + (8 : Int32))) (v := (.int (bs 8))) (by rw [e67]; exact Ar72.1) (State.isArrayOf_alike hZ.alike Ar72.2.1) Ar72.2.2 hin72 hat72 (g := (mkF m 25 #[rv a1, .val (.long (accF bs 8)), .second, iv 56, iv (bs 7)] [(.int (p1 + (8 : Int32))), (.ref a2)])) rfl rfl (hb hby d11_25) t k) ?_
                  show Goes p e below QQ (T67.setTop (mkF m 26 #[rv a1, .val (.long (accF bs 8)), .second, iv 56, iv (bs 7)] [(.int (bs 8))]))
                  refine Goes.on (fun t k => XS.istore X67.here hx rfl (hb hby d11_26) rfl (l' := #[rv a1, .val (.long (accF bs 8)), .second, iv 56, iv (bs 8)]) rfl k) ?_
                  show Goes p e below QQ (T67.setTop (mkF m 28 #[rv a1, .val (.long (accF bs 8)), .second, iv 56, iv (bs 8)] []))
                  refine Goes.on (fun t k => XS.lloadN X67.here hx rfl (hb hby d11_28) rfl k) ?_
                  show Goes p e below QQ (T67.setTop (mkF m 29 #[rv a1, .val (.long (accF bs 8)), .second, iv 56, iv (bs 8)] [(.long (accF bs 8))]))
                  refine Goes.on (fun t k => XS.iload X67.here hx rfl (hb hby d11_29) rfl k) ?_
                  show Goes p e below QQ (T67.setTop (mkF m 31 #[rv a1, .val (.long (accF bs 8)), .second, iv 56, iv (bs 8)] [(.int (bs 8)), (.long (accF bs 8))]))
                  refine Goes.on (fun t k => XS.i2l X67.here hx rfl (hb hby d11_31) rfl k) ?_
                  show Goes p e below QQ (T67.setTop (mkF m 32 #[rv a1, .val (.long (accF bs 8)), .second, iv 56, iv (bs 8)] [(.long (bs 8).toInt64), (.long (accF bs 8))]))
                  refine Goes.on (fun t k => X67.ldc2Long hx hown (mvT hZ (hw _ (List.mem_of_getElem? (i := 81) rfl))) (g := (mkF m 32 #[rv a1, .val (.long (accF bs 8)), .second, iv 56, iv (bs 8)] [(.long (bs 8).toInt64), (.long (accF bs 8))])) rfl (hb hby d11_32) t k) ?_
                  show Goes p e below QQ (T67.setTop (mkF m 35 #[rv a1, .val (.long (accF bs 8)), .second, iv 56, iv (bs 8)] [(.long (127 : Int64)), (.long (bs 8).toInt64), (.long (accF bs 8))]))
                  refine Goes.on (fun t k => XS.land X67.here hx rfl (hb hby d11_35) rfl k) ?_
                  show Goes p e below QQ (T67.setTop (mkF m 36 #[rv a1, .val (.long (accF bs 8)), .second, iv 56, iv (bs 8)] [(.long ((bs 8).toInt64 &&& (127 : Int64))), (.long (accF bs 8))]))
                  refine Goes.on (fun t k => XS.iloadN X67.here hx rfl (hb hby d11_36) rfl k) ?_
                  show Goes p e below QQ (T67.setTop (mkF m 37 #[rv a1, .val (.long (accF bs 8)), .second, iv 56, iv (bs 8)] [(.int 56), (.long ((bs 8).toInt64 &&& (127 : Int64))), (.long (accF bs 8))]))
                  refine Goes.on (fun t k => XS.lshl X67.here hx rfl (hb hby d11_37) rfl k) ?_
                  show Goes p e below QQ (T67.setTop (mkF m 38 #[rv a1, .val (.long (accF bs 8)), .second, iv 56, iv (bs 8)] [(.long (((bs 8).toInt64 &&& (127 : Int64)) <<< ((56 : Int32) &&& 0x3f).toInt64)), (.long (accF bs 8))]))
                  refine Goes.on (fun t k => XS.lor X67.here hx rfl (hb hby d11_38) rfl k) ?_
                  show Goes p e below QQ (T67.setTop (mkF m 39 #[rv a1, .val (.long (accF bs 8)), .second, iv 56, iv (bs 8)] [(.long ((accF bs 8) ||| (((bs 8).toInt64 &&& (127 : Int64)) <<< ((56 : Int32) &&& 0x3f).toInt64)))]))
                  refine Goes.on (fun t k => XS.lstoreN X67.here hx rfl (hb hby d11_39) rfl (l' := #[rv a1, .val (.long ((accF bs 8) ||| (((bs 8).toInt64 &&& (127 : Int64)) <<< ((56 : Int32) &&& 0x3f).toInt64))), .second, iv 56, iv (bs 8)]) rfl k) ?_
                  show Goes p e below QQ (T67.setTop (mkF m 40 #[rv a1, .val (.long ((accF bs 8) ||| (((bs 8).toInt64 &&& (127 : Int64)) <<< ((56 : Int32) &&& 0x3f).toInt64))), .second, iv 56, iv (bs 8)] []))
                  rw [own_acc8 bs]
                  show Goes p e below QQ (T67.setTop (mkF m 40 #[rv a1, .val (.long (accF bs 9)), .second, iv 56, iv (bs 8)] []))
                  refine Goes.on (fun t k => XS.iload X67.here hx rfl (hb hby d11_40) rfl k) ?_
                  show Goes p e below QQ (T67.setTop (mkF m 42 #[rv a1, .val (.long (accF bs 9)), .second, iv 56, iv (bs 8)] [(.int (bs 8))]))
                  by_cases hk8 : tn = 9
                  · refine Goes.on (fun t k => XS.ifNo X67.here hx rfl (hb hby d11_42) rfl ((if0 _ _).trans (flt (R8x (by omega))).1) k) ?_
                    show Goes p e below QQ (T67.setTop (mkF m 45 #[rv a1, .val (.long (accF bs 9)), .second, iv 56, iv (bs 8)] []))
                    refine Goes.on (fun t k => XS.lloadN X67.here hx rfl (hb hby d11_45) rfl k) ?_
                    show Goes p e below QQ (T67.setTop (mkF m 46 #[rv a1, .val (.long (accF bs 9)), .second, iv 56, iv (bs 8)] [(.long (accF bs 9))]))
                    exact Goes.rJ X67 hx hret hlk (hb hby d11_46) hQQ (by rw [e67]; exact ⟨(by rw [hk8]), N67, K67, (by rw [hk8]; exact Fq8)⟩) (by decide) (by decide)
                  · refine Goes.on (fun t k => XS.ifYes X67.here hx rfl (pc0 := 42) (pc' := 47) rfl (hb hby d11_42) rfl ((if0 _ _).trans (tlt (N8x (by omega))).1) (by decide) (by decide) k) ?_
                    show Goes p e below QQ (T67.setTop (mkF m 47 #[rv a1, .val (.long (accF bs 9)), .second, iv 56, iv (bs 8)] []))
                    refine Goes.on (fun t k => XS.iinc X67.here hx rfl (hb hby d11_47) rfl (l' := #[rv a1, .val (.long (accF bs 9)), .second, iv ((56 : Int32) + (7 : Int32)), iv (bs 8)]) rfl k) ?_
                    show Goes p e below QQ (T67.setTop (mkF m 50 #[rv a1, .val (.long (accF bs 9)), .second, iv ((56 : Int32) + (7 : Int32)), iv (bs 8)] []))
                    rw [(by decide : ((56 : Int32) + (7 : Int32)) = (63 : Int32))]
                    show Goes p e below QQ (T67.setTop (mkF m 50 #[rv a1, .val (.long (accF bs 9)), .second, iv 63, iv (bs 8)] []))
                    refine Goes.on (fun t k => XS.goto X67.here hx rfl (pc0 := 50) (pc' := 4) rfl (hb hby d11_50) (by decide) (by decide) k) ?_
                    show Goes p e below QQ (T67.setTop (mkF m 4 #[rv a1, .val (.long (accF bs 9)), .second, iv 63, iv (bs 8)] []))
                    refine Goes.on (fun t k => XS.iloadN X67.here hx rfl (hb hby d11_4) rfl k) ?_
                    show Goes p e below QQ (T67.setTop (mkF m 5 #[rv a1, .val (.long (accF bs 9)), .second, iv 63, iv (bs 8)] [(.int 63)]))
                    refine Goes.on (fun t k => XS.bipush X67.here hx rfl (hb hby d11_5) k) ?_
                    show Goes p e below QQ (T67.setTop (mkF m 7 #[rv a1, .val (.long (accF bs 9)), .second, iv 63, iv (bs 8)] [(.int 64), (.int 63)]))
                    refine Goes.on (fun t k => XS.icmpNo X67.here hx rfl (hb hby d11_7) rfl (tlt (by decide)).2.1 k) ?_
                    show Goes p e below QQ (T67.setTop (mkF m 10 #[rv a1, .val (.long (accF bs 9)), .second, iv 63, iv (bs 8)] []))
                    have hi9 : 9 < tn := by omega
                    obtain ⟨I9, G9, N9x, R9x⟩ := B9 hi9
                    refine Goes.on (fun t k => XS.aloadN X67.here hx rfl (hb hby d11_10) rfl rfl k) ?_
                    show Goes p e below QQ (T67.setTop (mkF m 11 #[rv a1, .val (.long (accF bs 9)), .second, iv 63, iv (bs 8)] [(.ref a1)]))
                    obtain ⟨T73, X73, e73, st73⟩ := getF X67 hx hZ hown (host := "") (Or.inl (hw _ (List.mem_of_getElem? (i := 72) rfl))) Via.refl e67 F_69 (g := (mkF m 11 #[rv a1, .val (.long (accF bs 9)), .second, iv 63, iv (bs 8)] [(.ref a1)])) rfl rfl (hb hby d11_11)
                    refine Goes.on (fun t k => st73 t k) ?_
                    show Goes p e below QQ (T73.setTop (mkF m 14 #[rv a1, .val (.long (accF bs 9)), .second, iv 63, iv (bs 8)] [(.ref a2)]))
                    refine Goes.on (fun t k => XS.aloadN X73.here hx rfl (hb hby d11_14) rfl rfl k) ?_
                    show Goes p e below QQ (T73.setTop (mkF m 15 #[rv a1, .val (.long (accF bs 9)), .second, iv 63, iv (bs 8)] [(.ref a1), (.ref a2)]))
                    refine Goes.on (fun t k => XS.dup X73.here hx rfl (hb hby d11_15) rfl rfl k) ?_
                    show Goes p e below QQ (T73.setTop (mkF m 16 #[rv a1, .val (.long (accF bs 9)), .second, iv 63, iv (bs 8)] [(.ref a1), (.ref a1), (.ref a2)]))
                    obtain ⟨T74, X74, e74, st74⟩ := getF X73 hx hZ hown (host := "") (Or.inl (hw _ (List.mem_of_getElem? (i := 74) rfl))) Via.refl e73 Fq8 (g := (mkF m 16 #[rv a1, .val (.long (accF bs 9)), .second, iv 63, iv (bs 8)] [(.ref a1), (.ref a1), (.ref a2)])) rfl rfl (hb hby d11_16)
                    refine Goes.on (fun t k => st74 t k) ?_
                    show Goes p e below QQ (T74.setTop (mkF m 19 #[rv a1, .val (.long (accF bs 9)), .second, iv 63, iv (bs 8)] [(.int (p1 + (9 : Int32))), (.ref a1), (.ref a2)]))
                    refine Goes.on (fun t k => XS.dupX1 X74.here hx rfl (hb hby d11_19) rfl rfl rfl k) ?_
                    show Goes p e below QQ (T74.setTop (mkF m 20 #[rv a1, .val (.long (accF bs 9)), .second, iv 63, iv (bs 8)] [(.int (p1 + (9 : Int32))), (.ref a1), (.int (p1 + (9 : Int32))), (.ref a2)]))
                    refine Goes.on (fun t k => XS.iconst X74.here hx rfl (hb hby d11_20) k) ?_
                    show Goes p e below QQ (T74.setTop (mkF m 21 #[rv a1, .val (.long (accF bs 9)), .second, iv 63, iv (bs 8)] [(.int 1), (.int (p1 + (9 : Int32))), (.ref a1), (.int (p1 + (9 : Int32))), (.ref a2)]))
                    refine Goes.on (fun t k => XS.iadd X74.here hx rfl (hb hby d11_21) rfl k) ?_
                    show Goes p e below QQ (T74.setTop (mkF m 22 #[rv a1, .val (.long (accF bs 9)), .second, iv 63, iv (bs 8)] [(.int ((p1 + (9 : Int32)) + (1 : Int32))), (.ref a1), (.int (p1 + (9 : Int32))), (.ref a2)]))
                    obtain ⟨T75, h75, X75, e75, W75, st75⟩ := putF X74 hx hZ hown (host := "") (Or.inl (hw _ (List.mem_of_getElem? (i := 74) rfl))) Via.refl e74 Fq8 E_68 (Or.inl (hw _ (List.mem_of_getElem? (i := 75) rfl))) (hw _ (List.mem_of_getElem? (i := 11) rfl)) (ty := .int) (by decide) rfl rfl (g := (mkF m 22 #[rv a1, .val (.long (accF bs 9)), .second, iv 63, iv (bs 8)] [(.int ((p1 + (9 : Int32)) + (1 : Int32))), (.ref a1), (.int (p1 + (9 : Int32))), (.ref a2)])) rfl rfl (hb hby d11_22)
                    have E_76 := E_68.wr W75
                    have F_77 := F_69.other W75 (Or.inr (slot_ne (Or.inr (hw _ (List.mem_of_getElem? (i := 73) rfl))) (Or.inl (hw _ (List.mem_of_getElem? (i := 75) rfl))) (by decide) (t := (.array .byte)) (t' := .int) (by decide) (by decide)))
                    have V_78 := V_70.other W75 ne_a2_a1
                    have K75 := K67.wr W75 (Or.inl (List.mem_of_getElem? (i := 0) rfl))
                    have N75 := Fr.snoc X75 N67 g_a1
                    have F_79 : Fld Z h75 a1 "com/example/lendgate/lendgate/circulation/Decoder" "position" "I" (.int ((p1 + (9 : Int32)) + (1 : Int32))) := Fq8.same W75
                    refine Goes.on (fun t k => st75 t k) ?_
                    show Goes p e below QQ (T75.setTop (mkF m 25 #[rv a1, .val (.long (accF bs 9)), .second, iv 63, iv (bs 8)] [(.int (p1 + (9 : Int32))), (.ref a2)]))
                    have Fq9 := F_79
                    rw [own_add p1 (9 : Int32) (1 : Int32) (10 : Int32) rfl] at Fq9
                    show Goes p e below QQ (T75.setTop (mkF m 25 #[rv a1, .val (.long (accF bs 9)), .second, iv 63, iv (bs 8)] [(.int (p1 + (9 : Int32))), (.ref a2)]))
                    obtain ⟨cl80, Ar80, aq80, aS80, aN80, aH80, aG80⟩ := id V_78
                    have hin80 := inb_of (j := (p1 + (9 : Int32))) aS80 I9
                    have hat80 := Has.at (v := (.int (bs 9))) aH80 hin80 G9
                    refine Goes.on (fun t k => X75.baloadBytes hx (j := (p1 + (9 : Int32))) (v := (.int (bs 9))) (by rw [e75]; exact Ar80.1) (State.isArrayOf_alike hZ.alike Ar80.2.1) Ar80.2.2 hin80 hat80 (g := (mkF m 25 #[rv a1, .val (.long (accF bs 9)), .second, iv 63, iv (bs 8)] [(.int (p1 + (9 : Int32))), (.ref a2)])) rfl rfl (hb hby d11_25) t k) ?_
                    show Goes p e below QQ (T75.setTop (mkF m 26 #[rv a1, .val (.long (accF bs 9)), .second, iv 63, iv (bs 8)] [(.int (bs 9))]))
                    refine Goes.on (fun t k => XS.istore X75.here hx rfl (hb hby d11_26) rfl (l' := #[rv a1, .val (.long (accF bs 9)), .second, iv 63, iv (bs 9)]) rfl k) ?_
                    show Goes p e below QQ (T75.setTop (mkF m 28 #[rv a1, .val (.long (accF bs 9)), .second, iv 63, iv (bs 9)] []))
                    refine Goes.on (fun t k => XS.lloadN X75.here hx rfl (hb hby d11_28) rfl k) ?_
                    show Goes p e below QQ (T75.setTop (mkF m 29 #[rv a1, .val (.long (accF bs 9)), .second, iv 63, iv (bs 9)] [(.long (accF bs 9))]))
                    refine Goes.on (fun t k => XS.iload X75.here hx rfl (hb hby d11_29) rfl k) ?_
                    show Goes p e below QQ (T75.setTop (mkF m 31 #[rv a1, .val (.long (accF bs 9)), .second, iv 63, iv (bs 9)] [(.int (bs 9)), (.long (accF bs 9))]))
                    refine Goes.on (fun t k => XS.i2l X75.here hx rfl (hb hby d11_31) rfl k) ?_
                    show Goes p e below QQ (T75.setTop (mkF m 32 #[rv a1, .val (.long (accF bs 9)), .second, iv 63, iv (bs 9)] [(.long (bs 9).toInt64), (.long (accF bs 9))]))
                    refine Goes.on (fun t k => X75.ldc2Long hx hown (mvT hZ (hw _ (List.mem_of_getElem? (i := 81) rfl))) (g := (mkF m 32 #[rv a1, .val (.long (accF bs 9)), .second, iv 63, iv (bs 9)] [(.long (bs 9).toInt64), (.long (accF bs 9))])) rfl (hb hby d11_32) t k) ?_
                    show Goes p e below QQ (T75.setTop (mkF m 35 #[rv a1, .val (.long (accF bs 9)), .second, iv 63, iv (bs 9)] [(.long (127 : Int64)), (.long (bs 9).toInt64), (.long (accF bs 9))]))
                    refine Goes.on (fun t k => XS.land X75.here hx rfl (hb hby d11_35) rfl k) ?_
                    show Goes p e below QQ (T75.setTop (mkF m 36 #[rv a1, .val (.long (accF bs 9)), .second, iv 63, iv (bs 9)] [(.long ((bs 9).toInt64 &&& (127 : Int64))), (.long (accF bs 9))]))
                    refine Goes.on (fun t k => XS.iloadN X75.here hx rfl (hb hby d11_36) rfl k) ?_
                    show Goes p e below QQ (T75.setTop (mkF m 37 #[rv a1, .val (.long (accF bs 9)), .second, iv 63, iv (bs 9)] [(.int 63), (.long ((bs 9).toInt64 &&& (127 : Int64))), (.long (accF bs 9))]))
                    refine Goes.on (fun t k => XS.lshl X75.here hx rfl (hb hby d11_37) rfl k) ?_
                    show Goes p e below QQ (T75.setTop (mkF m 38 #[rv a1, .val (.long (accF bs 9)), .second, iv 63, iv (bs 9)] [(.long (((bs 9).toInt64 &&& (127 : Int64)) <<< ((63 : Int32) &&& 0x3f).toInt64)), (.long (accF bs 9))]))
                    refine Goes.on (fun t k => XS.lor X75.here hx rfl (hb hby d11_38) rfl k) ?_
                    show Goes p e below QQ (T75.setTop (mkF m 39 #[rv a1, .val (.long (accF bs 9)), .second, iv 63, iv (bs 9)] [(.long ((accF bs 9) ||| (((bs 9).toInt64 &&& (127 : Int64)) <<< ((63 : Int32) &&& 0x3f).toInt64)))]))
                    refine Goes.on (fun t k => XS.lstoreN X75.here hx rfl (hb hby d11_39) rfl (l' := #[rv a1, .val (.long ((accF bs 9) ||| (((bs 9).toInt64 &&& (127 : Int64)) <<< ((63 : Int32) &&& 0x3f).toInt64))), .second, iv 63, iv (bs 9)]) rfl k) ?_
                    show Goes p e below QQ (T75.setTop (mkF m 40 #[rv a1, .val (.long ((accF bs 9) ||| (((bs 9).toInt64 &&& (127 : Int64)) <<< ((63 : Int32) &&& 0x3f).toInt64))), .second, iv 63, iv (bs 9)] []))
                    rw [own_acc9 bs]
                    show Goes p e below QQ (T75.setTop (mkF m 40 #[rv a1, .val (.long (accF bs 10)), .second, iv 63, iv (bs 9)] []))
                    refine Goes.on (fun t k => XS.iload X75.here hx rfl (hb hby d11_40) rfl k) ?_
                    show Goes p e below QQ (T75.setTop (mkF m 42 #[rv a1, .val (.long (accF bs 10)), .second, iv 63, iv (bs 9)] [(.int (bs 9))]))
                    have hk9 : tn = 10 := by omega
                    refine Goes.on (fun t k => XS.ifNo X75.here hx rfl (hb hby d11_42) rfl ((if0 _ _).trans (flt (R9x (by omega))).1) k) ?_
                    show Goes p e below QQ (T75.setTop (mkF m 45 #[rv a1, .val (.long (accF bs 10)), .second, iv 63, iv (bs 9)] []))
                    refine Goes.on (fun t k => XS.lloadN X75.here hx rfl (hb hby d11_45) rfl k) ?_
                    show Goes p e below QQ (T75.setTop (mkF m 46 #[rv a1, .val (.long (accF bs 10)), .second, iv 63, iv (bs 9)] [(.long (accF bs 10))]))
                    exact Goes.rJ X75 hx hret hlk (hb hby d11_46) hQQ (by rw [e75]; exact ⟨(by rw [hk9]), N75, K75, (by rw [hk9]; exact Fq9)⟩) (by decide) (by decide)
theorem pn_0 : plainFor x = true := plainFor_of_name (show plainName "com/example/lendgate/lendgate/circulation/DecoderCountPinLaw" = true by first | (simp [plainName, overriddenIn]; done) | decide +kernel)
theorem ef_rm0 (m : MethodId) (x0 : Int64) (x1 : Int64) (x2 : Int32) (x3 : Int32) : entryFrame m #[(.long x0), (.long x1), (.int x2), (.int x3)] maxLocals = mkF m 0 #[.val (.long x0), .second, .val (.long x1), .second, iv x2, iv x3, .unset, .unset, .unset, .unset, .unset, .unset, .unset] [] := by first | (simp [entryFrame, mkF, argsToLocals, Value.category, maxLocals]; done) | rfl
theorem pd_1 : parseMethodDescriptor "(JI)B" = some ⟨[.long, .int], some .byte⟩ := by decide +kernel
theorem pd_2 : parseMethodDescriptor "([BIIIJ)V" = some ⟨[(.array .byte), .int, .int, .int, .long], none⟩ := by decide +kernel
theorem pd_3 : parseMethodDescriptor "(Lcom/example/lendgate/lendgate/circulation/Symbols;[BI)V" = some ⟨[(.object "com/example/lendgate/lendgate/circulation/Symbols"), (.array .byte), .int], none⟩ := by decide +kernel
theorem pd_4 : parseMethodDescriptor "()J" = some ⟨[], some .long⟩ := by decide +kernel
theorem pd_5 : parseMethodDescriptor "()I" = some ⟨[], some .int⟩ := by decide +kernel
def lenF (p1 : Int64) : Int32 := (if ((p1.toUInt64 >>> ((63 : Int32) &&& 0x3f).toInt64.toUInt64).toInt64) = (0 : Int64) then (if ((p1.toUInt64 >>> ((56 : Int32) &&& 0x3f).toInt64.toUInt64).toInt64) = (0 : Int64) then (if ((p1.toUInt64 >>> ((49 : Int32) &&& 0x3f).toInt64.toUInt64).toInt64) = (0 : Int64) then (if ((p1.toUInt64 >>> ((42 : Int32) &&& 0x3f).toInt64.toUInt64).toInt64) = (0 : Int64) then (if ((p1.toUInt64 >>> ((35 : Int32) &&& 0x3f).toInt64.toUInt64).toInt64) = (0 : Int64) then (if ((p1.toUInt64 >>> ((28 : Int32) &&& 0x3f).toInt64.toUInt64).toInt64) = (0 : Int64) then (if ((p1.toUInt64 >>> ((21 : Int32) &&& 0x3f).toInt64.toUInt64).toInt64) = (0 : Int64) then (if ((p1.toUInt64 >>> ((14 : Int32) &&& 0x3f).toInt64.toUInt64).toInt64) = (0 : Int64) then (if ((p1.toUInt64 >>> ((7 : Int32) &&& 0x3f).toInt64.toUInt64).toInt64) = (0 : Int64) then (1 : Int32) else (2 : Int32)) else (3 : Int32)) else (4 : Int32)) else (5 : Int32)) else (6 : Int32)) else (7 : Int32)) else (8 : Int32)) else (9 : Int32)) else (10 : Int32))
theorem own_four (x1 : Int32) : (x1 &&& (3 : Int32)) = (0 : Int32) ∨ (x1 &&& (3 : Int32)) = (1 : Int32) ∨ (x1 &&& (3 : Int32)) = (2 : Int32) ∨ (x1 &&& (3 : Int32)) = (3 : Int32) := by
  have q := c_mask x1 3 2 (by decide) (by decide)
  have e0 : (0 : Int32).toInt = 0 := by decide
  have e1 : (1 : Int32).toInt = 1 := by decide
  have e2 : (2 : Int32).toInt = 2 := by decide
  have e3 : (3 : Int32).toInt = 3 := by decide
  rw [← Int32.toInt_inj, ← Int32.toInt_inj, ← Int32.toInt_inj, ← Int32.toInt_inj, e0, e1, e2, e3]
  omega
/-- a long, read without a sign -/
def un (y : Int64) : Nat := y.toUInt64.toNat
theorem own_unI (y : Int64) : (un y : Int) = y.toInt % 18446744073709551616 := by
  have e : y.toInt = y.toBitVec.toInt := rfl
  have e2 : un y = y.toBitVec.toNat := rfl
  have hl := y.toBitVec.isLt
  rw [e2, e, BitVec.toInt_eq_toNat_cond]
  split <;> omega
theorem own_unlt (y : Int64) : un y < 18446744073709551616 := y.toUInt64.toNat_lt
theorem own_uninj (y z : Int64) (h : un y = un z) : y = z := by
  have a := own_unI y
  have b := own_unI z
  have c := rng64 y
  have d := rng64 z
  apply Int64.toInt_inj.mp
  omega
theorem own_shr0 (y : Int64) (q : Int32) (k : Nat) (hk : q.toBitVec.toNat % 64 = k) (h0 : 0 < k) : ((y.toUInt64 >>> (q &&& 0x3f).toInt64.toUInt64).toInt64) = (0 : Int64) ↔ un y < 2 ^ k := by
  have q1 := c_lushr y q k hk h0
  have q2 := own_unI y
  rw [← Int64.toInt_inj, q1, (by decide : (0 : Int64).toInt = 0), ← q2]
  have hp : 0 < 2 ^ k := Nat.two_pow_pos k
  constructor
  · intro h
    have h' : un y / 2 ^ k = 0 := by
      have : ((un y / 2 ^ k : Nat) : Int) = 0 := by rw [Int.natCast_ediv]; exact h
      omega
    exact (Nat.div_eq_zero_iff_lt hp).mp h'
  · intro h
    have h' : un y / 2 ^ k = 0 := Nat.div_eq_of_lt h
    rw [← Int.natCast_ediv, h']
    rfl
theorem own_lenF (p1 : Int64) : 1 ≤ (lenF p1).toInt ∧ (lenF p1).toInt ≤ 10 ∧ un p1 < 2 ^ (7 * (lenF p1).toInt.toNat) := by
  have hu := own_unlt p1
  unfold lenF
  simp only [own_shr0 p1 7 7 (by decide) (by decide), own_shr0 p1 14 14 (by decide) (by decide), own_shr0 p1 21 21 (by decide) (by decide), own_shr0 p1 28 28 (by decide) (by decide), own_shr0 p1 35 35 (by decide) (by decide), own_shr0 p1 42 42 (by decide) (by decide), own_shr0 p1 49 49 (by decide) (by decide), own_shr0 p1 56 56 (by decide) (by decide), own_shr0 p1 63 63 (by decide) (by decide)]
  split
  · split
    · split
      · split
        · split
          · split
            · split
              · split
                · split
                  · rename_i h; exact ⟨by decide, by decide, h⟩
                  · rename_i h _; exact ⟨by decide, by decide, h⟩
                · rename_i h _; exact ⟨by decide, by decide, h⟩
              · rename_i h _; exact ⟨by decide, by decide, h⟩
            · rename_i h _; exact ⟨by decide, by decide, h⟩
          · rename_i h _; exact ⟨by decide, by decide, h⟩
        · rename_i h _; exact ⟨by decide, by decide, h⟩
      · rename_i h _; exact ⟨by decide, by decide, h⟩
    · rename_i h _; exact ⟨by decide, by decide, h⟩
  · exact ⟨by decide, by decide, Nat.lt_of_lt_of_le hu (by decide)⟩
theorem own_nz (ln : Int32) (h1 : 1 ≤ ln.toInt) (h2 : ln.toInt ≤ 10) : ((11 : Int32) - ln) ≠ 0 := by
  intro z
  have q := c_isub (11 : Int32) ln
  rw [z, (by decide : (11 : Int32).toInt = 11), (by decide : (0 : Int32).toInt = 0)] at q
  omega
theorem own_ofNat (n : Nat) (h : n ≤ 100) : (Int32.ofNat n).toInt = n := Int32.toInt_ofNat_small (by omega)
theorem own_tot (p1 : Int64) (ln p4 : Int32) (hlen : 1 ≤ ln.toInt ∧ ln.toInt ≤ 10 ∧ un p1 < 2 ^ (7 * ln.toInt.toNat)) : ∃ tn : Nat, (ln + ((p4 &&& (2147483647 : Int32)) % ((11 : Int32) - ln))) = Int32.ofNat tn ∧ 1 ≤ tn ∧ tn ≤ 10 ∧ un p1 < 2 ^ (7 * tn) := by
  have q := c_isub (11 : Int32) ln
  have r := rng32 ((11 : Int32) - ln)
  rw [(by decide : (11 : Int32).toInt = 11)] at q
  have m := c_mask p4 2147483647 31 (by decide) (by decide)
  have v := (c_iremV (p4 &&& (2147483647 : Int32)) ((11 : Int32) - ln)).1 (by omega) (by omega)
  have w := c_iadd ln ((p4 &&& (2147483647 : Int32)) % ((11 : Int32) - ln))
  have z := rng32 (ln + ((p4 &&& (2147483647 : Int32)) % ((11 : Int32) - ln)))
  generalize (ln + ((p4 &&& (2147483647 : Int32)) % ((11 : Int32) - ln))) = t at *
  refine ⟨t.toInt.toNat, ?_, by omega, by omega, ?_⟩
  · apply Int32.toInt_inj.mp
    rw [own_ofNat _ (by omega)]
    omega
  · exact Nat.lt_of_lt_of_le hlen.2.2 (Nat.pow_le_pow_right (by decide) (by omega))
theorem own_in (of : Int32) (h4 : of = (0 : Int32) ∨ of = (1 : Int32) ∨ of = (2 : Int32) ∨ of = (3 : Int32)) (i : Int32) (hi : 0 ≤ i.toInt ∧ i.toInt ≤ 9) : ¬ (of + i) < 0 ∧ (of + i) < (14 : Int32) := by
  have q := c_iadd of i
  have r := rng32 (of + i)
  have f : 0 ≤ of.toInt ∧ of.toInt ≤ 3 := by rcases h4 with rfl | rfl | rfl | rfl <;> decide
  rw [Int32.lt_iff_toInt_lt, Int32.lt_iff_toInt_lt, (by decide : (0 : Int32).toInt = 0), (by decide : (14 : Int32).toInt = 14)]
  omega
theorem own_nat (of : Int32) (h4 : of = (0 : Int32) ∨ of = (1 : Int32) ∨ of = (2 : Int32) ∨ of = (3 : Int32)) (i : Int32) (hi : 0 ≤ i.toInt ∧ i.toInt ≤ 9) : ((of + i).toNatClampNeg : Int) = of.toInt + i.toInt ∧ (of + i).toNatClampNeg < 14 := by
  have q := c_iadd of i
  have r := rng32 (of + i)
  have f : 0 ≤ of.toInt ∧ of.toInt ≤ 3 := by rcases h4 with rfl | rfl | rfl | rfl <;> decide
  have e : (of + i).toNatClampNeg = (of + i).toInt.toNat := rfl
  omega
theorem own_lt (of : Int32) (h4 : of = (0 : Int32) ∨ of = (1 : Int32) ∨ of = (2 : Int32) ∨ of = (3 : Int32)) (i : Int32) (hi : 0 ≤ i.toInt ∧ i.toInt ≤ 9) : (of + i).toNatClampNeg < 14 := (own_nat of h4 i hi).2
theorem own_putlen (of i t : Int32) (v : Int64) (vs : List Value) : (putL of i t v vs).length = vs.length := by
  unfold putL
  split
  · exact List.length_set
  · rfl
theorem own_getset (S : List Value) (n k : Nat) (v d : Value) (hn : n < S.length) : (S.set n v).getD k d = if n = k then v else S.getD k d := by
  rw [List.getD_eq_getElem?_getD, List.getD_eq_getElem?_getD, List.getElem?_set]
  by_cases h : n = k
  · subst h; simp [hn]
  · simp [h]
def bsF (p1 : Int64) (tn i : Nat) : Int32 := (gF (Int32.ofNat i) (Int32.ofNat tn) p1).toInt8.toInt32.toInt8.toInt32
theorem own_hit (of : Int32) (h4 : of = (0 : Int32) ∨ of = (1 : Int32) ∨ of = (2 : Int32) ∨ of = (3 : Int32)) (i t : Int32) (hi : 0 ≤ i.toInt ∧ i.toInt ≤ 9) (v : Int64) (vs : List Value) (hl : vs.length = 14) (h : i < t) : (putL of i t v vs).getD (of + i).toNatClampNeg (.int (0 : Int32)) = .int (gF i t v).toInt8.toInt32.toInt8.toInt32 := by
  unfold putL
  rw [if_pos h, own_getset _ _ _ _ _ (by rw [hl]; exact own_lt of h4 i hi), if_pos rfl]
theorem own_miss (of : Int32) (h4 : of = (0 : Int32) ∨ of = (1 : Int32) ∨ of = (2 : Int32) ∨ of = (3 : Int32)) (i k t : Int32) (hi : 0 ≤ i.toInt ∧ i.toInt ≤ 9) (hk : 0 ≤ k.toInt ∧ k.toInt ≤ 9) (hne : i.toInt < k.toInt) (v : Int64) (vs : List Value) (hl : vs.length = 14) : (putL of k t v vs).getD (of + i).toNatClampNeg (.int (0 : Int32)) = vs.getD (of + i).toNatClampNeg (.int (0 : Int32)) := by
  have a1 := own_nat of h4 i hi
  have a2 := own_nat of h4 k hk
  unfold putL
  split
  · rw [own_getset _ _ _ _ _ (by rw [hl]; exact a2.2), if_neg (by omega)]
  · rfl
theorem own_ltn (i tn : Nat) (h : i < tn) (ht2 : tn ≤ 10) : Int32.ofNat i < Int32.ofNat tn := by
  rw [Int32.lt_iff_toInt_lt, own_ofNat _ (by omega), own_ofNat _ (by omega)]
  omega
/-- seven bits of v -/
def c7 (v : Int64) (i : Nat) : Nat := un v / 2 ^ (7 * i) % 128
theorem own_t7 (v : Int64) (i : Nat) (hi : i ≤ 9) : ((((v.toUInt64 >>> (((7 : Int32) * Int32.ofNat i) &&& 0x3f).toInt64.toUInt64).toInt64) &&& (127 : Int64)).toInt32).toInt = c7 v i := by
  have m := c_maskL ((v.toUInt64 >>> (((7 : Int32) * Int32.ofNat i) &&& 0x3f).toInt64.toUInt64).toInt64) 127 7 (by decide) (by decide)
  have l := c_l2i (((v.toUInt64 >>> (((7 : Int32) * Int32.ofNat i) &&& 0x3f).toInt64.toUInt64).toInt64) &&& (127 : Int64))
  have r := rng32 ((((v.toUInt64 >>> (((7 : Int32) * Int32.ofNat i) &&& 0x3f).toInt64.toUInt64).toInt64) &&& (127 : Int64)).toInt32)
  have u := own_unI v
  have key : (((v.toUInt64 >>> (((7 : Int32) * Int32.ofNat i) &&& 0x3f).toInt64.toUInt64).toInt64)).toInt % 128 = c7 v i := by
    unfold c7
    by_cases h0 : i = 0
    · subst h0
      have e : (((7 : Int32) * Int32.ofNat 0) &&& 0x3f).toInt64.toUInt64 = 0 := by decide
      rw [e]
      have e2 : (v.toUInt64 >>> (0 : UInt64)).toInt64 = v := by simp
      rw [e2]
      omega
    · have hb : ((7 : Int32) * Int32.ofNat i).toBitVec.toNat % 64 = 7 * i := by
        have : ∀ k : Fin 10, ((7 : Int32) * Int32.ofNat k.val).toBitVec.toNat % 64 = 7 * k.val := by decide
        exact this ⟨i, by omega⟩
      have s := c_lushr v ((7 : Int32) * Int32.ofNat i) (7 * i) hb (by omega)
      rw [s, ← u, ← Int.natCast_ediv]
      rfl
  omega
theorem own_g (v : Int64) (tn i : Nat) (hi : i ≤ 9) (ht2 : tn ≤ 10) : (i + 1 < tn → (gF (Int32.ofNat i) (Int32.ofNat tn) v).toInt = c7 v i + 128) ∧ (¬ i + 1 < tn → (gF (Int32.ofNat i) (Int32.ofNat tn) v).toInt = c7 v i) := by
  have t := own_t7 v i hi
  have s := c_isub (Int32.ofNat tn) (1 : Int32)
  have r := rng32 (Int32.ofNat tn - (1 : Int32))
  rw [own_ofNat tn (by omega), (by decide : (1 : Int32).toInt = 1)] at s
  have b : c7 v i < 128 := Nat.mod_lt _ (by decide)
  unfold gF
  constructor
  · intro h
    rw [if_pos (by rw [Int32.lt_iff_toInt_lt, own_ofNat i (by omega)]; omega)]
    rw [Int32.or_comm]
    have e : (128 : Int32).toInt = 128 := by decide
    have o := c_or (128 : Int32) ((((v.toUInt64 >>> (((7 : Int32) * Int32.ofNat i) &&& 0x3f).toInt64.toUInt64).toInt64) &&& (127 : Int64)).toInt32) 7 (by decide) 128 rfl (by rw [e]; rfl) (by omega) (by omega)
    have r2 := rng32 ((128 : Int32) ||| ((((v.toUInt64 >>> (((7 : Int32) * Int32.ofNat i) &&& 0x3f).toInt64.toUInt64).toInt64) &&& (127 : Int64)).toInt32))
    omega
  · intro h
    rw [if_neg (by rw [Int32.lt_iff_toInt_lt, own_ofNat i (by omega)]; omega)]
    exact t
theorem own_sgn (v : Int64) (tn i : Nat) (ht2 : tn ≤ 10) (hi : i ≤ 9 := by decide) : (i + 1 < tn → bsF v tn i < 0) ∧ (i + 1 = tn → ¬ bsF v tn i < 0) := by
  obtain ⟨g1, g2⟩ := own_g v tn i hi ht2
  have b : c7 v i < 128 := Nat.mod_lt _ (by decide)
  unfold bsF
  have a1 := c_i2b (gF (Int32.ofNat i) (Int32.ofNat tn) v)
  have a2 := c_i2b (gF (Int32.ofNat i) (Int32.ofNat tn) v).toInt8.toInt32
  rw [Int32.lt_iff_toInt_lt, (by decide : (0 : Int32).toInt = 0)]
  constructor
  · intro h
    have := g1 h
    omega
  · intro h
    have := g2 (by omega)
    omega
theorem own_c7 (v : Int64) (tn i : Nat) (hi : i ≤ 9) (ht2 : tn ≤ 10) : ((bsF v tn i).toInt64 &&& (127 : Int64)).toInt = c7 v i := by
  obtain ⟨g1, g2⟩ := own_g v tn i hi ht2
  have b : c7 v i < 128 := Nat.mod_lt _ (by decide)
  have m := c_maskL (bsF v tn i).toInt64 127 7 (by decide) (by decide)
  rw [m, c_i2l]
  unfold bsF
  have a1 := c_i2b (gF (Int32.ofNat i) (Int32.ofNat tn) v)
  have a2 := c_i2b (gF (Int32.ofNat i) (Int32.ofNat tn) v).toInt8.toInt32
  by_cases h : i + 1 < tn
  · have := g1 h
    omega
  · have := g2 h
    omega
theorem own_acc (v : Int64) (tn : Nat) (ht2 : tn ≤ 10) : ∀ k, k ≤ 10 → un (accF (bsF v tn) k) = un v % 2 ^ (7 * k) := by
  intro k
  induction k with
  | zero =>
    intro _
    rw [Nat.mul_zero, Nat.pow_zero, Nat.mod_one]
    rfl
  | succ k ih =>
    intro hk
    have ih := ih (by omega)
    have c := own_c7 v tn k (by omega) ht2
    have hv := own_unlt v
    show un (accF (bsF v tn) k ||| (((bsF v tn k).toInt64 &&& (127 : Int64)) <<< ((Int32.ofNat (7 * k)) &&& 0x3f).toInt64)) = _
    have hb : (Int32.ofNat (7 * k)).toBitVec.toNat % 64 = 7 * k := by
      have : ∀ j : Fin 10, (Int32.ofNat (7 * j.val)).toBitVec.toNat % 64 = 7 * j.val := by decide
      exact this ⟨k, by omega⟩
    have s := c_lshl ((bsF v tn k).toInt64 &&& (127 : Int64)) (Int32.ofNat (7 * k)) (7 * k) hb
    have u1 := own_unI (((bsF v tn k).toInt64 &&& (127 : Int64)) <<< ((Int32.ofNat (7 * k)) &&& 0x3f).toInt64)
    rw [c] at s
    have hc : c7 v k * 2 ^ (7 * k) ≤ un v := by
      unfold c7
      exact Nat.le_trans (Nat.mul_le_mul_right _ (Nat.mod_le _ _)) (Nat.div_mul_le_self _ _)
    have e1 : un (((bsF v tn k).toInt64 &&& (127 : Int64)) <<< ((Int32.ofNat (7 * k)) &&& 0x3f).toInt64) = c7 v k * 2 ^ (7 * k) := by
      have e : ((c7 v k * 2 ^ (7 * k) : Nat) : Int) = (c7 v k : Int) * ((2 ^ (7 * k) : Nat) : Int) := Int.natCast_mul _ _
      rw [← e] at s
      generalize c7 v k * 2 ^ (7 * k) = P at *
      omega
    have e2 : ∀ y z : Int64, un (y ||| z) = un y ||| un z := fun y z => by
      show (y ||| z).toBitVec.toNat = y.toBitVec.toNat ||| z.toBitVec.toNat
      rw [Int64.toBitVec_or, BitVec.toNat_or]
    rw [e2, ih, e1]
    have lt : un v % 2 ^ (7 * k) < 2 ^ (7 * k) := Nat.mod_lt _ (Nat.two_pow_pos _)
    rw [Nat.or_comm, Nat.mul_comm (c7 v k), ← Nat.two_pow_add_eq_or_of_lt lt]
    unfold c7
    rw [show 7 * (k + 1) = 7 * k + 7 from by omega, Nat.pow_add, Nat.mod_mul]
    have e3 : (2 : Nat) ^ 7 = 128 := rfl
    rw [e3]
    omega
theorem own_count (v : Int64) (tn : Nat) (ht1 : 1 ≤ tn) (ht2 : tn ≤ 10) (hcov : un v < 2 ^ (7 * tn)) : accF (bsF v tn) tn = v := by
  apply own_uninj
  rw [own_acc v tn ht2 tn ht2, Nat.mod_eq_of_lt hcov]
theorem own_byt0 (of : Int32) (h4 : of = (0 : Int32) ∨ of = (1 : Int32) ∨ of = (2 : Int32) ∨ of = (3 : Int32)) (tn : Nat) (p1 : Int64) (ht2 : tn ≤ 10) {vs0 vs1 vs2 vs3 vs4 vs5 vs6 vs7 vs8 vs9 vs10 : List Value} (hl0 : vs0.length = 14) (hvs1 : vs1 = putL of (0 : Int32) (Int32.ofNat tn) p1 vs0) (hvs2 : vs2 = putL of (1 : Int32) (Int32.ofNat tn) p1 vs1) (hvs3 : vs3 = putL of (2 : Int32) (Int32.ofNat tn) p1 vs2) (hvs4 : vs4 = putL of (3 : Int32) (Int32.ofNat tn) p1 vs3) (hvs5 : vs5 = putL of (4 : Int32) (Int32.ofNat tn) p1 vs4) (hvs6 : vs6 = putL of (5 : Int32) (Int32.ofNat tn) p1 vs5) (hvs7 : vs7 = putL of (6 : Int32) (Int32.ofNat tn) p1 vs6) (hvs8 : vs8 = putL of (7 : Int32) (Int32.ofNat tn) p1 vs7) (hvs9 : vs9 = putL of (8 : Int32) (Int32.ofNat tn) p1 vs8) (hvs10 : vs10 = putL of (9 : Int32) (Int32.ofNat tn) p1 vs9) : Byt vs10 tn 0 of (bsF p1 tn 0) := by
  have e0 : of = of + (0 : Int32) := (Int32.add_zero of).symm
  rw [e0]
  intro hlt
  have hl1 : vs1.length = 14 := by rw [hvs1, own_putlen]; exact hl0
  have hl2 : vs2.length = 14 := by rw [hvs2, own_putlen]; exact hl1
  have hl3 : vs3.length = 14 := by rw [hvs3, own_putlen]; exact hl2
  have hl4 : vs4.length = 14 := by rw [hvs4, own_putlen]; exact hl3
  have hl5 : vs5.length = 14 := by rw [hvs5, own_putlen]; exact hl4
  have hl6 : vs6.length = 14 := by rw [hvs6, own_putlen]; exact hl5
  have hl7 : vs7.length = 14 := by rw [hvs7, own_putlen]; exact hl6
  have hl8 : vs8.length = 14 := by rw [hvs8, own_putlen]; exact hl7
  have hl9 : vs9.length = 14 := by rw [hvs9, own_putlen]; exact hl8
  have hl10 : vs10.length = 14 := by rw [hvs10, own_putlen]; exact hl9
  refine ⟨own_in of h4 (0 : Int32) (by decide), ?_, own_sgn p1 tn 0 ht2⟩
  rw [hvs10, own_miss of h4 (0 : Int32) (9 : Int32) _ (by decide) (by decide) (by decide) _ _ hl9]
  rw [hvs9, own_miss of h4 (0 : Int32) (8 : Int32) _ (by decide) (by decide) (by decide) _ _ hl8]
  rw [hvs8, own_miss of h4 (0 : Int32) (7 : Int32) _ (by decide) (by decide) (by decide) _ _ hl7]
  rw [hvs7, own_miss of h4 (0 : Int32) (6 : Int32) _ (by decide) (by decide) (by decide) _ _ hl6]
  rw [hvs6, own_miss of h4 (0 : Int32) (5 : Int32) _ (by decide) (by decide) (by decide) _ _ hl5]
  rw [hvs5, own_miss of h4 (0 : Int32) (4 : Int32) _ (by decide) (by decide) (by decide) _ _ hl4]
  rw [hvs4, own_miss of h4 (0 : Int32) (3 : Int32) _ (by decide) (by decide) (by decide) _ _ hl3]
  rw [hvs3, own_miss of h4 (0 : Int32) (2 : Int32) _ (by decide) (by decide) (by decide) _ _ hl2]
  rw [hvs2, own_miss of h4 (0 : Int32) (1 : Int32) _ (by decide) (by decide) (by decide) _ _ hl1]
  rw [hvs1, own_hit of h4 (0 : Int32) _ (by decide) _ _ hl0 (own_ltn 0 tn hlt ht2)]
  rfl
theorem own_byt1 (of : Int32) (h4 : of = (0 : Int32) ∨ of = (1 : Int32) ∨ of = (2 : Int32) ∨ of = (3 : Int32)) (tn : Nat) (p1 : Int64) (ht2 : tn ≤ 10) {vs1 vs2 vs3 vs4 vs5 vs6 vs7 vs8 vs9 vs10 : List Value} (hl1 : vs1.length = 14) (hvs2 : vs2 = putL of (1 : Int32) (Int32.ofNat tn) p1 vs1) (hvs3 : vs3 = putL of (2 : Int32) (Int32.ofNat tn) p1 vs2) (hvs4 : vs4 = putL of (3 : Int32) (Int32.ofNat tn) p1 vs3) (hvs5 : vs5 = putL of (4 : Int32) (Int32.ofNat tn) p1 vs4) (hvs6 : vs6 = putL of (5 : Int32) (Int32.ofNat tn) p1 vs5) (hvs7 : vs7 = putL of (6 : Int32) (Int32.ofNat tn) p1 vs6) (hvs8 : vs8 = putL of (7 : Int32) (Int32.ofNat tn) p1 vs7) (hvs9 : vs9 = putL of (8 : Int32) (Int32.ofNat tn) p1 vs8) (hvs10 : vs10 = putL of (9 : Int32) (Int32.ofNat tn) p1 vs9) : Byt vs10 tn 1 (of + (1 : Int32)) (bsF p1 tn 1) := by
  have e0 : (of + (1 : Int32)) = of + (1 : Int32) := rfl
  rw [e0]
  intro hlt
  have hl2 : vs2.length = 14 := by rw [hvs2, own_putlen]; exact hl1
  have hl3 : vs3.length = 14 := by rw [hvs3, own_putlen]; exact hl2
  have hl4 : vs4.length = 14 := by rw [hvs4, own_putlen]; exact hl3
  have hl5 : vs5.length = 14 := by rw [hvs5, own_putlen]; exact hl4
  have hl6 : vs6.length = 14 := by rw [hvs6, own_putlen]; exact hl5
  have hl7 : vs7.length = 14 := by rw [hvs7, own_putlen]; exact hl6
  have hl8 : vs8.length = 14 := by rw [hvs8, own_putlen]; exact hl7
  have hl9 : vs9.length = 14 := by rw [hvs9, own_putlen]; exact hl8
  have hl10 : vs10.length = 14 := by rw [hvs10, own_putlen]; exact hl9
  refine ⟨own_in of h4 (1 : Int32) (by decide), ?_, own_sgn p1 tn 1 ht2⟩
  rw [hvs10, own_miss of h4 (1 : Int32) (9 : Int32) _ (by decide) (by decide) (by decide) _ _ hl9]
  rw [hvs9, own_miss of h4 (1 : Int32) (8 : Int32) _ (by decide) (by decide) (by decide) _ _ hl8]
  rw [hvs8, own_miss of h4 (1 : Int32) (7 : Int32) _ (by decide) (by decide) (by decide) _ _ hl7]
  rw [hvs7, own_miss of h4 (1 : Int32) (6 : Int32) _ (by decide) (by decide) (by decide) _ _ hl6]
  rw [hvs6, own_miss of h4 (1 : Int32) (5 : Int32) _ (by decide) (by decide) (by decide) _ _ hl5]
  rw [hvs5, own_miss of h4 (1 : Int32) (4 : Int32) _ (by decide) (by decide) (by decide) _ _ hl4]
  rw [hvs4, own_miss of h4 (1 : Int32) (3 : Int32) _ (by decide) (by decide) (by decide) _ _ hl3]
  rw [hvs3, own_miss of h4 (1 : Int32) (2 : Int32) _ (by decide) (by decide) (by decide) _ _ hl2]
  rw [hvs2, own_hit of h4 (1 : Int32) _ (by decide) _ _ hl1 (own_ltn 1 tn hlt ht2)]
  rfl
theorem own_byt2 (of : Int32) (h4 : of = (0 : Int32) ∨ of = (1 : Int32) ∨ of = (2 : Int32) ∨ of = (3 : Int32)) (tn : Nat) (p1 : Int64) (ht2 : tn ≤ 10) {vs2 vs3 vs4 vs5 vs6 vs7 vs8 vs9 vs10 : List Value} (hl2 : vs2.length = 14) (hvs3 : vs3 = putL of (2 : Int32) (Int32.ofNat tn) p1 vs2) (hvs4 : vs4 = putL of (3 : Int32) (Int32.ofNat tn) p1 vs3) (hvs5 : vs5 = putL of (4 : Int32) (Int32.ofNat tn) p1 vs4) (hvs6 : vs6 = putL of (5 : Int32) (Int32.ofNat tn) p1 vs5) (hvs7 : vs7 = putL of (6 : Int32) (Int32.ofNat tn) p1 vs6) (hvs8 : vs8 = putL of (7 : Int32) (Int32.ofNat tn) p1 vs7) (hvs9 : vs9 = putL of (8 : Int32) (Int32.ofNat tn) p1 vs8) (hvs10 : vs10 = putL of (9 : Int32) (Int32.ofNat tn) p1 vs9) : Byt vs10 tn 2 (of + (2 : Int32)) (bsF p1 tn 2) := by
  have e0 : (of + (2 : Int32)) = of + (2 : Int32) := rfl
  rw [e0]
  intro hlt
  have hl3 : vs3.length = 14 := by rw [hvs3, own_putlen]; exact hl2
  have hl4 : vs4.length = 14 := by rw [hvs4, own_putlen]; exact hl3
  have hl5 : vs5.length = 14 := by rw [hvs5, own_putlen]; exact hl4
  have hl6 : vs6.length = 14 := by rw [hvs6, own_putlen]; exact hl5
  have hl7 : vs7.length = 14 := by rw [hvs7, own_putlen]; exact hl6
  have hl8 : vs8.length = 14 := by rw [hvs8, own_putlen]; exact hl7
  have hl9 : vs9.length = 14 := by rw [hvs9, own_putlen]; exact hl8
  have hl10 : vs10.length = 14 := by rw [hvs10, own_putlen]; exact hl9
  refine ⟨own_in of h4 (2 : Int32) (by decide), ?_, own_sgn p1 tn 2 ht2⟩
  rw [hvs10, own_miss of h4 (2 : Int32) (9 : Int32) _ (by decide) (by decide) (by decide) _ _ hl9]
  rw [hvs9, own_miss of h4 (2 : Int32) (8 : Int32) _ (by decide) (by decide) (by decide) _ _ hl8]
  rw [hvs8, own_miss of h4 (2 : Int32) (7 : Int32) _ (by decide) (by decide) (by decide) _ _ hl7]
  rw [hvs7, own_miss of h4 (2 : Int32) (6 : Int32) _ (by decide) (by decide) (by decide) _ _ hl6]
  rw [hvs6, own_miss of h4 (2 : Int32) (5 : Int32) _ (by decide) (by decide) (by decide) _ _ hl5]
  rw [hvs5, own_miss of h4 (2 : Int32) (4 : Int32) _ (by decide) (by decide) (by decide) _ _ hl4]
  rw [hvs4, own_miss of h4 (2 : Int32) (3 : Int32) _ (by decide) (by decide) (by decide) _ _ hl3]
  rw [hvs3, own_hit of h4 (2 : Int32) _ (by decide) _ _ hl2 (own_ltn 2 tn hlt ht2)]
  rfl
theorem own_byt3 (of : Int32) (h4 : of = (0 : Int32) ∨ of = (1 : Int32) ∨ of = (2 : Int32) ∨ of = (3 : Int32)) (tn : Nat) (p1 : Int64) (ht2 : tn ≤ 10) {vs3 vs4 vs5 vs6 vs7 vs8 vs9 vs10 : List Value} (hl3 : vs3.length = 14) (hvs4 : vs4 = putL of (3 : Int32) (Int32.ofNat tn) p1 vs3) (hvs5 : vs5 = putL of (4 : Int32) (Int32.ofNat tn) p1 vs4) (hvs6 : vs6 = putL of (5 : Int32) (Int32.ofNat tn) p1 vs5) (hvs7 : vs7 = putL of (6 : Int32) (Int32.ofNat tn) p1 vs6) (hvs8 : vs8 = putL of (7 : Int32) (Int32.ofNat tn) p1 vs7) (hvs9 : vs9 = putL of (8 : Int32) (Int32.ofNat tn) p1 vs8) (hvs10 : vs10 = putL of (9 : Int32) (Int32.ofNat tn) p1 vs9) : Byt vs10 tn 3 (of + (3 : Int32)) (bsF p1 tn 3) := by
  have e0 : (of + (3 : Int32)) = of + (3 : Int32) := rfl
  rw [e0]
  intro hlt
  have hl4 : vs4.length = 14 := by rw [hvs4, own_putlen]; exact hl3
  have hl5 : vs5.length = 14 := by rw [hvs5, own_putlen]; exact hl4
  have hl6 : vs6.length = 14 := by rw [hvs6, own_putlen]; exact hl5
  have hl7 : vs7.length = 14 := by rw [hvs7, own_putlen]; exact hl6
  have hl8 : vs8.length = 14 := by rw [hvs8, own_putlen]; exact hl7
  have hl9 : vs9.length = 14 := by rw [hvs9, own_putlen]; exact hl8
  have hl10 : vs10.length = 14 := by rw [hvs10, own_putlen]; exact hl9
  refine ⟨own_in of h4 (3 : Int32) (by decide), ?_, own_sgn p1 tn 3 ht2⟩
  rw [hvs10, own_miss of h4 (3 : Int32) (9 : Int32) _ (by decide) (by decide) (by decide) _ _ hl9]
  rw [hvs9, own_miss of h4 (3 : Int32) (8 : Int32) _ (by decide) (by decide) (by decide) _ _ hl8]
  rw [hvs8, own_miss of h4 (3 : Int32) (7 : Int32) _ (by decide) (by decide) (by decide) _ _ hl7]
  rw [hvs7, own_miss of h4 (3 : Int32) (6 : Int32) _ (by decide) (by decide) (by decide) _ _ hl6]
  rw [hvs6, own_miss of h4 (3 : Int32) (5 : Int32) _ (by decide) (by decide) (by decide) _ _ hl5]
  rw [hvs5, own_miss of h4 (3 : Int32) (4 : Int32) _ (by decide) (by decide) (by decide) _ _ hl4]
  rw [hvs4, own_hit of h4 (3 : Int32) _ (by decide) _ _ hl3 (own_ltn 3 tn hlt ht2)]
  rfl
theorem own_byt4 (of : Int32) (h4 : of = (0 : Int32) ∨ of = (1 : Int32) ∨ of = (2 : Int32) ∨ of = (3 : Int32)) (tn : Nat) (p1 : Int64) (ht2 : tn ≤ 10) {vs4 vs5 vs6 vs7 vs8 vs9 vs10 : List Value} (hl4 : vs4.length = 14) (hvs5 : vs5 = putL of (4 : Int32) (Int32.ofNat tn) p1 vs4) (hvs6 : vs6 = putL of (5 : Int32) (Int32.ofNat tn) p1 vs5) (hvs7 : vs7 = putL of (6 : Int32) (Int32.ofNat tn) p1 vs6) (hvs8 : vs8 = putL of (7 : Int32) (Int32.ofNat tn) p1 vs7) (hvs9 : vs9 = putL of (8 : Int32) (Int32.ofNat tn) p1 vs8) (hvs10 : vs10 = putL of (9 : Int32) (Int32.ofNat tn) p1 vs9) : Byt vs10 tn 4 (of + (4 : Int32)) (bsF p1 tn 4) := by
  have e0 : (of + (4 : Int32)) = of + (4 : Int32) := rfl
  rw [e0]
  intro hlt
  have hl5 : vs5.length = 14 := by rw [hvs5, own_putlen]; exact hl4
  have hl6 : vs6.length = 14 := by rw [hvs6, own_putlen]; exact hl5
  have hl7 : vs7.length = 14 := by rw [hvs7, own_putlen]; exact hl6
  have hl8 : vs8.length = 14 := by rw [hvs8, own_putlen]; exact hl7
  have hl9 : vs9.length = 14 := by rw [hvs9, own_putlen]; exact hl8
  have hl10 : vs10.length = 14 := by rw [hvs10, own_putlen]; exact hl9
  refine ⟨own_in of h4 (4 : Int32) (by decide), ?_, own_sgn p1 tn 4 ht2⟩
  rw [hvs10, own_miss of h4 (4 : Int32) (9 : Int32) _ (by decide) (by decide) (by decide) _ _ hl9]
  rw [hvs9, own_miss of h4 (4 : Int32) (8 : Int32) _ (by decide) (by decide) (by decide) _ _ hl8]
  rw [hvs8, own_miss of h4 (4 : Int32) (7 : Int32) _ (by decide) (by decide) (by decide) _ _ hl7]
  rw [hvs7, own_miss of h4 (4 : Int32) (6 : Int32) _ (by decide) (by decide) (by decide) _ _ hl6]
  rw [hvs6, own_miss of h4 (4 : Int32) (5 : Int32) _ (by decide) (by decide) (by decide) _ _ hl5]
  rw [hvs5, own_hit of h4 (4 : Int32) _ (by decide) _ _ hl4 (own_ltn 4 tn hlt ht2)]
  rfl
theorem own_byt5 (of : Int32) (h4 : of = (0 : Int32) ∨ of = (1 : Int32) ∨ of = (2 : Int32) ∨ of = (3 : Int32)) (tn : Nat) (p1 : Int64) (ht2 : tn ≤ 10) {vs5 vs6 vs7 vs8 vs9 vs10 : List Value} (hl5 : vs5.length = 14) (hvs6 : vs6 = putL of (5 : Int32) (Int32.ofNat tn) p1 vs5) (hvs7 : vs7 = putL of (6 : Int32) (Int32.ofNat tn) p1 vs6) (hvs8 : vs8 = putL of (7 : Int32) (Int32.ofNat tn) p1 vs7) (hvs9 : vs9 = putL of (8 : Int32) (Int32.ofNat tn) p1 vs8) (hvs10 : vs10 = putL of (9 : Int32) (Int32.ofNat tn) p1 vs9) : Byt vs10 tn 5 (of + (5 : Int32)) (bsF p1 tn 5) := by
  have e0 : (of + (5 : Int32)) = of + (5 : Int32) := rfl
  rw [e0]
  intro hlt
  have hl6 : vs6.length = 14 := by rw [hvs6, own_putlen]; exact hl5
  have hl7 : vs7.length = 14 := by rw [hvs7, own_putlen]; exact hl6
  have hl8 : vs8.length = 14 := by rw [hvs8, own_putlen]; exact hl7
  have hl9 : vs9.length = 14 := by rw [hvs9, own_putlen]; exact hl8
  have hl10 : vs10.length = 14 := by rw [hvs10, own_putlen]; exact hl9
  refine ⟨own_in of h4 (5 : Int32) (by decide), ?_, own_sgn p1 tn 5 ht2⟩
  rw [hvs10, own_miss of h4 (5 : Int32) (9 : Int32) _ (by decide) (by decide) (by decide) _ _ hl9]
  rw [hvs9, own_miss of h4 (5 : Int32) (8 : Int32) _ (by decide) (by decide) (by decide) _ _ hl8]
  rw [hvs8, own_miss of h4 (5 : Int32) (7 : Int32) _ (by decide) (by decide) (by decide) _ _ hl7]
  rw [hvs7, own_miss of h4 (5 : Int32) (6 : Int32) _ (by decide) (by decide) (by decide) _ _ hl6]
  rw [hvs6, own_hit of h4 (5 : Int32) _ (by decide) _ _ hl5 (own_ltn 5 tn hlt ht2)]
  rfl
theorem own_byt6 (of : Int32) (h4 : of = (0 : Int32) ∨ of = (1 : Int32) ∨ of = (2 : Int32) ∨ of = (3 : Int32)) (tn : Nat) (p1 : Int64) (ht2 : tn ≤ 10) {vs6 vs7 vs8 vs9 vs10 : List Value} (hl6 : vs6.length = 14) (hvs7 : vs7 = putL of (6 : Int32) (Int32.ofNat tn) p1 vs6) (hvs8 : vs8 = putL of (7 : Int32) (Int32.ofNat tn) p1 vs7) (hvs9 : vs9 = putL of (8 : Int32) (Int32.ofNat tn) p1 vs8) (hvs10 : vs10 = putL of (9 : Int32) (Int32.ofNat tn) p1 vs9) : Byt vs10 tn 6 (of + (6 : Int32)) (bsF p1 tn 6) := by
  have e0 : (of + (6 : Int32)) = of + (6 : Int32) := rfl
  rw [e0]
  intro hlt
  have hl7 : vs7.length = 14 := by rw [hvs7, own_putlen]; exact hl6
  have hl8 : vs8.length = 14 := by rw [hvs8, own_putlen]; exact hl7
  have hl9 : vs9.length = 14 := by rw [hvs9, own_putlen]; exact hl8
  have hl10 : vs10.length = 14 := by rw [hvs10, own_putlen]; exact hl9
  refine ⟨own_in of h4 (6 : Int32) (by decide), ?_, own_sgn p1 tn 6 ht2⟩
  rw [hvs10, own_miss of h4 (6 : Int32) (9 : Int32) _ (by decide) (by decide) (by decide) _ _ hl9]
  rw [hvs9, own_miss of h4 (6 : Int32) (8 : Int32) _ (by decide) (by decide) (by decide) _ _ hl8]
  rw [hvs8, own_miss of h4 (6 : Int32) (7 : Int32) _ (by decide) (by decide) (by decide) _ _ hl7]
  rw [hvs7, own_hit of h4 (6 : Int32) _ (by decide) _ _ hl6 (own_ltn 6 tn hlt ht2)]
  rfl
theorem own_byt7 (of : Int32) (h4 : of = (0 : Int32) ∨ of = (1 : Int32) ∨ of = (2 : Int32) ∨ of = (3 : Int32)) (tn : Nat) (p1 : Int64) (ht2 : tn ≤ 10) {vs7 vs8 vs9 vs10 : List Value} (hl7 : vs7.length = 14) (hvs8 : vs8 = putL of (7 : Int32) (Int32.ofNat tn) p1 vs7) (hvs9 : vs9 = putL of (8 : Int32) (Int32.ofNat tn) p1 vs8) (hvs10 : vs10 = putL of (9 : Int32) (Int32.ofNat tn) p1 vs9) : Byt vs10 tn 7 (of + (7 : Int32)) (bsF p1 tn 7) := by
  have e0 : (of + (7 : Int32)) = of + (7 : Int32) := rfl
  rw [e0]
  intro hlt
  have hl8 : vs8.length = 14 := by rw [hvs8, own_putlen]; exact hl7
  have hl9 : vs9.length = 14 := by rw [hvs9, own_putlen]; exact hl8
  have hl10 : vs10.length = 14 := by rw [hvs10, own_putlen]; exact hl9
  refine ⟨own_in of h4 (7 : Int32) (by decide), ?_, own_sgn p1 tn 7 ht2⟩
  rw [hvs10, own_miss of h4 (7 : Int32) (9 : Int32) _ (by decide) (by decide) (by decide) _ _ hl9]
  rw [hvs9, own_miss of h4 (7 : Int32) (8 : Int32) _ (by decide) (by decide) (by decide) _ _ hl8]
  rw [hvs8, own_hit of h4 (7 : Int32) _ (by decide) _ _ hl7 (own_ltn 7 tn hlt ht2)]
  rfl
theorem own_byt8 (of : Int32) (h4 : of = (0 : Int32) ∨ of = (1 : Int32) ∨ of = (2 : Int32) ∨ of = (3 : Int32)) (tn : Nat) (p1 : Int64) (ht2 : tn ≤ 10) {vs8 vs9 vs10 : List Value} (hl8 : vs8.length = 14) (hvs9 : vs9 = putL of (8 : Int32) (Int32.ofNat tn) p1 vs8) (hvs10 : vs10 = putL of (9 : Int32) (Int32.ofNat tn) p1 vs9) : Byt vs10 tn 8 (of + (8 : Int32)) (bsF p1 tn 8) := by
  have e0 : (of + (8 : Int32)) = of + (8 : Int32) := rfl
  rw [e0]
  intro hlt
  have hl9 : vs9.length = 14 := by rw [hvs9, own_putlen]; exact hl8
  have hl10 : vs10.length = 14 := by rw [hvs10, own_putlen]; exact hl9
  refine ⟨own_in of h4 (8 : Int32) (by decide), ?_, own_sgn p1 tn 8 ht2⟩
  rw [hvs10, own_miss of h4 (8 : Int32) (9 : Int32) _ (by decide) (by decide) (by decide) _ _ hl9]
  rw [hvs9, own_hit of h4 (8 : Int32) _ (by decide) _ _ hl8 (own_ltn 8 tn hlt ht2)]
  rfl
theorem own_byt9 (of : Int32) (h4 : of = (0 : Int32) ∨ of = (1 : Int32) ∨ of = (2 : Int32) ∨ of = (3 : Int32)) (tn : Nat) (p1 : Int64) (ht2 : tn ≤ 10) {vs9 vs10 : List Value} (hl9 : vs9.length = 14) (hvs10 : vs10 = putL of (9 : Int32) (Int32.ofNat tn) p1 vs9) : Byt vs10 tn 9 (of + (9 : Int32)) (bsF p1 tn 9) := by
  have e0 : (of + (9 : Int32)) = of + (9 : Int32) := rfl
  rw [e0]
  intro hlt
  have hl10 : vs10.length = 14 := by rw [hvs10, own_putlen]; exact hl9
  refine ⟨own_in of h4 (9 : Int32) (by decide), ?_, own_sgn p1 tn 9 ht2⟩
  rw [hvs10, own_hit of h4 (9 : Int32) _ (by decide) _ _ hl9 (own_ltn 9 tn hlt ht2)]
  rfl
set_option maxRecDepth 65536 in
set_option maxHeartbeats 40000000 in
theorem rm0 (l : Launch) (Z : State) (a0 : Array Value) (hw : ∀ d ∈ tables_1, d.before a0 Z = true) (ws : List Jvm.Cond) (p1 p2 : Int64) (p3 p4 : Int32) (xD : Addr) (h0 : Heap) (n0 : Nat) (Z0 : n0 ≤ h0.size) (S_DEFAULTCAPACITY_EMPTY_ELEMENTDATA : Sta Z Z.heap "java/util/ArrayList" "DEFAULTCAPACITY_EMPTY_ELEMENTDATA" "[Ljava/lang/Object;" (.ref xD)) (O_0 : Old Z n0 h0) :
    MetFree l x (head1 (Jvm.Cond.code x code maxLocals ret :: ws) room_1) (fun a U => a = #[(.long p1), (.long p2), (.int p3), (.int p4)] ∧ Z.Warmed39 U.vm ∧ U.heap = h0) (fun _ _ _ _ _ => True) (fun _ U o U' => ∃ v L, o = .returned v ∧ QL n0 v U'.heap L ∧ FrameEnd U o U' L 24 128) := by
  refine own_enter pn_0 ?_
  intro p e s m below meth c s₁ QQ hQQ hx hby hml hown hnm hret hlk hZ X0 e0
  have hown : s.vm.findClass "com/example/lendgate/lendgate/circulation/DecoderCountPinLaw" = some m.cls := hown
  have hml : c.maxLocals = 13 := hml
  have hret : meth.sig.returnType = some .boolean := hret
  have N0 := Fr.nil n0
  have K0 := Keep.refl h0 []
  refine Goes.cast (ef_rm0 m p1 p2 p3 p4) ?_
  show Goes p e below QQ (s₁.setTop (mkF m 0 #[.val (.long p1), .second, .val (.long p2), .second, iv p3, iv p4, .unset, .unset, .unset, .unset, .unset, .unset, .unset] []))
  refine Goes.on (fun t k => XS.iconst X0.here hx rfl (hb hby at_0) k) ?_
  show Goes p e below QQ (s₁.setTop (mkF m 1 #[.val (.long p1), .second, .val (.long p2), .second, iv p3, iv p4, .unset, .unset, .unset, .unset, .unset, .unset, .unset] [(.int 1)]))
  refine Goes.on (fun t k => XS.istore X0.here hx rfl (hb hby at_1) rfl (l' := #[.val (.long p1), .second, .val (.long p2), .second, iv p3, iv p4, iv 1, .unset, .unset, .unset, .unset, .unset, .unset]) rfl k) ?_
  show Goes p e below QQ (s₁.setTop (mkF m 3 #[.val (.long p1), .second, .val (.long p2), .second, iv p3, iv p4, iv 1, .unset, .unset, .unset, .unset, .unset, .unset] []))
  refine Goes.on (fun t k => XS.lloadN X0.here hx rfl (hb hby at_3) rfl k) ?_
  show Goes p e below QQ (s₁.setTop (mkF m 4 #[.val (.long p1), .second, .val (.long p2), .second, iv p3, iv p4, iv 1, .unset, .unset, .unset, .unset, .unset, .unset] [(.long p1)]))
  refine Goes.on (fun t k => XS.bipush X0.here hx rfl (hb hby at_4) k) ?_
  show Goes p e below QQ (s₁.setTop (mkF m 6 #[.val (.long p1), .second, .val (.long p2), .second, iv p3, iv p4, iv 1, .unset, .unset, .unset, .unset, .unset, .unset] [(.int 7), (.long p1)]))
  refine Goes.on (fun t k => XS.lushr X0.here hx rfl (hb hby at_6) rfl k) ?_
  show Goes p e below QQ (s₁.setTop (mkF m 7 #[.val (.long p1), .second, .val (.long p2), .second, iv p3, iv p4, iv 1, .unset, .unset, .unset, .unset, .unset, .unset] [(.long ((p1.toUInt64 >>> ((7 : Int32) &&& 0x3f).toInt64.toUInt64).toInt64))]))
  refine Goes.on (fun t k => XS.lconst X0.here hx rfl (hb hby at_7) k) ?_
  show Goes p e below QQ (s₁.setTop (mkF m 8 #[.val (.long p1), .second, .val (.long p2), .second, iv p3, iv p4, iv 1, .unset, .unset, .unset, .unset, .unset, .unset] [(.long (0 : Int64)), (.long ((p1.toUInt64 >>> ((7 : Int32) &&& 0x3f).toInt64.toUInt64).toInt64))]))
  refine Goes.on (fun t k => XS.lcmp X0.here hx rfl (hb hby at_8) rfl k) ?_
  show Goes p e below QQ (s₁.setTop (mkF m 9 #[.val (.long p1), .second, .val (.long p2), .second, iv p3, iv p4, iv 1, .unset, .unset, .unset, .unset, .unset, .unset] [(.int (lcmpW ((p1.toUInt64 >>> ((7 : Int32) &&& 0x3f).toInt64.toUInt64).toInt64) (0 : Int64)))]))
  have J1 : ∀ (TJ1 : State) (lJ1 : List Loc), Stand p l e room_1 s m #[(.long p1), (.long p2), (.int p3), (.int p4)] below meth c TJ1 lJ1 0 0 → TJ1.heap = h0 → Fr n0 lJ1 → Goes p e below QQ (TJ1.setTop (mkF m 15 #[.val (.long p1), .second, .val (.long p2), .second, iv p3, iv p4, iv (if ((p1.toUInt64 >>> ((7 : Int32) &&& 0x3f).toInt64.toUInt64).toInt64) = (0 : Int64) then (1 : Int32) else (2 : Int32)), .unset, .unset, .unset, .unset, .unset, .unset] [])) := by
    intro TJ1 lJ1 XJ1 eJ1 NJ1
    refine Goes.on (fun t k => XS.lloadN XJ1.here hx rfl (hb hby at_15) rfl k) ?_
    show Goes p e below QQ (TJ1.setTop (mkF m 16 #[.val (.long p1), .second, .val (.long p2), .second, iv p3, iv p4, iv (if ((p1.toUInt64 >>> ((7 : Int32) &&& 0x3f).toInt64.toUInt64).toInt64) = (0 : Int64) then (1 : Int32) else (2 : Int32)), .unset, .unset, .unset, .unset, .unset, .unset] [(.long p1)]))
    refine Goes.on (fun t k => XS.bipush XJ1.here hx rfl (hb hby at_16) k) ?_
    show Goes p e below QQ (TJ1.setTop (mkF m 18 #[.val (.long p1), .second, .val (.long p2), .second, iv p3, iv p4, iv (if ((p1.toUInt64 >>> ((7 : Int32) &&& 0x3f).toInt64.toUInt64).toInt64) = (0 : Int64) then (1 : Int32) else (2 : Int32)), .unset, .unset, .unset, .unset, .unset, .unset] [(.int 14), (.long p1)]))
    refine Goes.on (fun t k => XS.lushr XJ1.here hx rfl (hb hby at_18) rfl k) ?_
    show Goes p e below QQ (TJ1.setTop (mkF m 19 #[.val (.long p1), .second, .val (.long p2), .second, iv p3, iv p4, iv (if ((p1.toUInt64 >>> ((7 : Int32) &&& 0x3f).toInt64.toUInt64).toInt64) = (0 : Int64) then (1 : Int32) else (2 : Int32)), .unset, .unset, .unset, .unset, .unset, .unset] [(.long ((p1.toUInt64 >>> ((14 : Int32) &&& 0x3f).toInt64.toUInt64).toInt64))]))
    refine Goes.on (fun t k => XS.lconst XJ1.here hx rfl (hb hby at_19) k) ?_
    show Goes p e below QQ (TJ1.setTop (mkF m 20 #[.val (.long p1), .second, .val (.long p2), .second, iv p3, iv p4, iv (if ((p1.toUInt64 >>> ((7 : Int32) &&& 0x3f).toInt64.toUInt64).toInt64) = (0 : Int64) then (1 : Int32) else (2 : Int32)), .unset, .unset, .unset, .unset, .unset, .unset] [(.long (0 : Int64)), (.long ((p1.toUInt64 >>> ((14 : Int32) &&& 0x3f).toInt64.toUInt64).toInt64))]))
    refine Goes.on (fun t k => XS.lcmp XJ1.here hx rfl (hb hby at_20) rfl k) ?_
    show Goes p e below QQ (TJ1.setTop (mkF m 21 #[.val (.long p1), .second, .val (.long p2), .second, iv p3, iv p4, iv (if ((p1.toUInt64 >>> ((7 : Int32) &&& 0x3f).toInt64.toUInt64).toInt64) = (0 : Int64) then (1 : Int32) else (2 : Int32)), .unset, .unset, .unset, .unset, .unset, .unset] [(.int (lcmpW ((p1.toUInt64 >>> ((14 : Int32) &&& 0x3f).toInt64.toUInt64).toInt64) (0 : Int64)))]))
    have J2 : ∀ (TJ2 : State) (lJ2 : List Loc), Stand p l e room_1 s m #[(.long p1), (.long p2), (.int p3), (.int p4)] below meth c TJ2 lJ2 0 0 → TJ2.heap = h0 → Fr n0 lJ2 → Goes p e below QQ (TJ2.setTop (mkF m 27 #[.val (.long p1), .second, .val (.long p2), .second, iv p3, iv p4, iv (if ((p1.toUInt64 >>> ((14 : Int32) &&& 0x3f).toInt64.toUInt64).toInt64) = (0 : Int64) then (if ((p1.toUInt64 >>> ((7 : Int32) &&& 0x3f).toInt64.toUInt64).toInt64) = (0 : Int64) then (1 : Int32) else (2 : Int32)) else (3 : Int32)), .unset, .unset, .unset, .unset, .unset, .unset] [])) := by
      intro TJ2 lJ2 XJ2 eJ2 NJ2
      refine Goes.on (fun t k => XS.lloadN XJ2.here hx rfl (hb hby at_27) rfl k) ?_
      show Goes p e below QQ (TJ2.setTop (mkF m 28 #[.val (.long p1), .second, .val (.long p2), .second, iv p3, iv p4, iv (if ((p1.toUInt64 >>> ((14 : Int32) &&& 0x3f).toInt64.toUInt64).toInt64) = (0 : Int64) then (if ((p1.toUInt64 >>> ((7 : Int32) &&& 0x3f).toInt64.toUInt64).toInt64) = (0 : Int64) then (1 : Int32) else (2 : Int32)) else (3 : Int32)), .unset, .unset, .unset, .unset, .unset, .unset] [(.long p1)]))
      refine Goes.on (fun t k => XS.bipush XJ2.here hx rfl (hb hby at_28) k) ?_
      show Goes p e below QQ (TJ2.setTop (mkF m 30 #[.val (.long p1), .second, .val (.long p2), .second, iv p3, iv p4, iv (if ((p1.toUInt64 >>> ((14 : Int32) &&& 0x3f).toInt64.toUInt64).toInt64) = (0 : Int64) then (if ((p1.toUInt64 >>> ((7 : Int32) &&& 0x3f).toInt64.toUInt64).toInt64) = (0 : Int64) then (1 : Int32) else (2 : Int32)) else (3 : Int32)), .unset, .unset, .unset, .unset, .unset, .unset] [(.int 21), (.long p1)]))
      refine Goes.on (fun t k => XS.lushr XJ2.here hx rfl (hb hby at_30) rfl k) ?_
      show Goes p e below QQ (TJ2.setTop (mkF m 31 #[.val (.long p1), .second, .val (.long p2), .second, iv p3, iv p4, iv (if ((p1.toUInt64 >>> ((14 : Int32) &&& 0x3f).toInt64.toUInt64).toInt64) = (0 : Int64) then (if ((p1.toUInt64 >>> ((7 : Int32) &&& 0x3f).toInt64.toUInt64).toInt64) = (0 : Int64) then (1 : Int32) else (2 : Int32)) else (3 : Int32)), .unset, .unset, .unset, .unset, .unset, .unset] [(.long ((p1.toUInt64 >>> ((21 : Int32) &&& 0x3f).toInt64.toUInt64).toInt64))]))
      refine Goes.on (fun t k => XS.lconst XJ2.here hx rfl (hb hby at_31) k) ?_
      show Goes p e below QQ (TJ2.setTop (mkF m 32 #[.val (.long p1), .second, .val (.long p2), .second, iv p3, iv p4, iv (if ((p1.toUInt64 >>> ((14 : Int32) &&& 0x3f).toInt64.toUInt64).toInt64) = (0 : Int64) then (if ((p1.toUInt64 >>> ((7 : Int32) &&& 0x3f).toInt64.toUInt64).toInt64) = (0 : Int64) then (1 : Int32) else (2 : Int32)) else (3 : Int32)), .unset, .unset, .unset, .unset, .unset, .unset] [(.long (0 : Int64)), (.long ((p1.toUInt64 >>> ((21 : Int32) &&& 0x3f).toInt64.toUInt64).toInt64))]))
      refine Goes.on (fun t k => XS.lcmp XJ2.here hx rfl (hb hby at_32) rfl k) ?_
      show Goes p e below QQ (TJ2.setTop (mkF m 33 #[.val (.long p1), .second, .val (.long p2), .second, iv p3, iv p4, iv (if ((p1.toUInt64 >>> ((14 : Int32) &&& 0x3f).toInt64.toUInt64).toInt64) = (0 : Int64) then (if ((p1.toUInt64 >>> ((7 : Int32) &&& 0x3f).toInt64.toUInt64).toInt64) = (0 : Int64) then (1 : Int32) else (2 : Int32)) else (3 : Int32)), .unset, .unset, .unset, .unset, .unset, .unset] [(.int (lcmpW ((p1.toUInt64 >>> ((21 : Int32) &&& 0x3f).toInt64.toUInt64).toInt64) (0 : Int64)))]))
      have J3 : ∀ (TJ3 : State) (lJ3 : List Loc), Stand p l e room_1 s m #[(.long p1), (.long p2), (.int p3), (.int p4)] below meth c TJ3 lJ3 0 0 → TJ3.heap = h0 → Fr n0 lJ3 → Goes p e below QQ (TJ3.setTop (mkF m 39 #[.val (.long p1), .second, .val (.long p2), .second, iv p3, iv p4, iv (if ((p1.toUInt64 >>> ((21 : Int32) &&& 0x3f).toInt64.toUInt64).toInt64) = (0 : Int64) then (if ((p1.toUInt64 >>> ((14 : Int32) &&& 0x3f).toInt64.toUInt64).toInt64) = (0 : Int64) then (if ((p1.toUInt64 >>> ((7 : Int32) &&& 0x3f).toInt64.toUInt64).toInt64) = (0 : Int64) then (1 : Int32) else (2 : Int32)) else (3 : Int32)) else (4 : Int32)), .unset, .unset, .unset, .unset, .unset, .unset] [])) := by
        intro TJ3 lJ3 XJ3 eJ3 NJ3
        refine Goes.on (fun t k => XS.lloadN XJ3.here hx rfl (hb hby at_39) rfl k) ?_
        show Goes p e below QQ (TJ3.setTop (mkF m 40 #[.val (.long p1), .second, .val (.long p2), .second, iv p3, iv p4, iv (if ((p1.toUInt64 >>> ((21 : Int32) &&& 0x3f).toInt64.toUInt64).toInt64) = (0 : Int64) then (if ((p1.toUInt64 >>> ((14 : Int32) &&& 0x3f).toInt64.toUInt64).toInt64) = (0 : Int64) then (if ((p1.toUInt64 >>> ((7 : Int32) &&& 0x3f).toInt64.toUInt64).toInt64) = (0 : Int64) then (1 : Int32) else (2 : Int32)) else (3 : Int32)) else (4 : Int32)), .unset, .unset, .unset, .unset, .unset, .unset] [(.long p1)]))
        refine Goes.on (fun t k => XS.bipush XJ3.here hx rfl (hb hby at_40) k) ?_
        show Goes p e below QQ (TJ3.setTop (mkF m 42 #[.val (.long p1), .second, .val (.long p2), .second, iv p3, iv p4, iv (if ((p1.toUInt64 >>> ((21 : Int32) &&& 0x3f).toInt64.toUInt64).toInt64) = (0 : Int64) then (if ((p1.toUInt64 >>> ((14 : Int32) &&& 0x3f).toInt64.toUInt64).toInt64) = (0 : Int64) then (if ((p1.toUInt64 >>> ((7 : Int32) &&& 0x3f).toInt64.toUInt64).toInt64) = (0 : Int64) then (1 : Int32) else (2 : Int32)) else (3 : Int32)) else (4 : Int32)), .unset, .unset, .unset, .unset, .unset, .unset] [(.int 28), (.long p1)]))
        refine Goes.on (fun t k => XS.lushr XJ3.here hx rfl (hb hby at_42) rfl k) ?_
        show Goes p e below QQ (TJ3.setTop (mkF m 43 #[.val (.long p1), .second, .val (.long p2), .second, iv p3, iv p4, iv (if ((p1.toUInt64 >>> ((21 : Int32) &&& 0x3f).toInt64.toUInt64).toInt64) = (0 : Int64) then (if ((p1.toUInt64 >>> ((14 : Int32) &&& 0x3f).toInt64.toUInt64).toInt64) = (0 : Int64) then (if ((p1.toUInt64 >>> ((7 : Int32) &&& 0x3f).toInt64.toUInt64).toInt64) = (0 : Int64) then (1 : Int32) else (2 : Int32)) else (3 : Int32)) else (4 : Int32)), .unset, .unset, .unset, .unset, .unset, .unset] [(.long ((p1.toUInt64 >>> ((28 : Int32) &&& 0x3f).toInt64.toUInt64).toInt64))]))
        refine Goes.on (fun t k => XS.lconst XJ3.here hx rfl (hb hby at_43) k) ?_
        show Goes p e below QQ (TJ3.setTop (mkF m 44 #[.val (.long p1), .second, .val (.long p2), .second, iv p3, iv p4, iv (if ((p1.toUInt64 >>> ((21 : Int32) &&& 0x3f).toInt64.toUInt64).toInt64) = (0 : Int64) then (if ((p1.toUInt64 >>> ((14 : Int32) &&& 0x3f).toInt64.toUInt64).toInt64) = (0 : Int64) then (if ((p1.toUInt64 >>> ((7 : Int32) &&& 0x3f).toInt64.toUInt64).toInt64) = (0 : Int64) then (1 : Int32) else (2 : Int32)) else (3 : Int32)) else (4 : Int32)), .unset, .unset, .unset, .unset, .unset, .unset] [(.long (0 : Int64)), (.long ((p1.toUInt64 >>> ((28 : Int32) &&& 0x3f).toInt64.toUInt64).toInt64))]))
        refine Goes.on (fun t k => XS.lcmp XJ3.here hx rfl (hb hby at_44) rfl k) ?_
        show Goes p e below QQ (TJ3.setTop (mkF m 45 #[.val (.long p1), .second, .val (.long p2), .second, iv p3, iv p4, iv (if ((p1.toUInt64 >>> ((21 : Int32) &&& 0x3f).toInt64.toUInt64).toInt64) = (0 : Int64) then (if ((p1.toUInt64 >>> ((14 : Int32) &&& 0x3f).toInt64.toUInt64).toInt64) = (0 : Int64) then (if ((p1.toUInt64 >>> ((7 : Int32) &&& 0x3f).toInt64.toUInt64).toInt64) = (0 : Int64) then (1 : Int32) else (2 : Int32)) else (3 : Int32)) else (4 : Int32)), .unset, .unset, .unset, .unset, .unset, .unset] [(.int (lcmpW ((p1.toUInt64 >>> ((28 : Int32) &&& 0x3f).toInt64.toUInt64).toInt64) (0 : Int64)))]))
        have J4 : ∀ (TJ4 : State) (lJ4 : List Loc), Stand p l e room_1 s m #[(.long p1), (.long p2), (.int p3), (.int p4)] below meth c TJ4 lJ4 0 0 → TJ4.heap = h0 → Fr n0 lJ4 → Goes p e below QQ (TJ4.setTop (mkF m 51 #[.val (.long p1), .second, .val (.long p2), .second, iv p3, iv p4, iv (if ((p1.toUInt64 >>> ((28 : Int32) &&& 0x3f).toInt64.toUInt64).toInt64) = (0 : Int64) then (if ((p1.toUInt64 >>> ((21 : Int32) &&& 0x3f).toInt64.toUInt64).toInt64) = (0 : Int64) then (if ((p1.toUInt64 >>> ((14 : Int32) &&& 0x3f).toInt64.toUInt64).toInt64) = (0 : Int64) then (if ((p1.toUInt64 >>> ((7 : Int32) &&& 0x3f).toInt64.toUInt64).toInt64) = (0 : Int64) then (1 : Int32) else (2 : Int32)) else (3 : Int32)) else (4 : Int32)) else (5 : Int32)), .unset, .unset, .unset, .unset, .unset, .unset] [])) := by
          intro TJ4 lJ4 XJ4 eJ4 NJ4
          refine Goes.on (fun t k => XS.lloadN XJ4.here hx rfl (hb hby at_51) rfl k) ?_
          show Goes p e below QQ (TJ4.setTop (mkF m 52 #[.val (.long p1), .second, .val (.long p2), .second, iv p3, iv p4, iv (if ((p1.toUInt64 >>> ((28 : Int32) &&& 0x3f).toInt64.toUInt64).toInt64) = (0 : Int64) then (if ((p1.toUInt64 >>> ((21 : Int32) &&& 0x3f).toInt64.toUInt64).toInt64) = (0 : Int64) then (if ((p1.toUInt64 >>> ((14 : Int32) &&& 0x3f).toInt64.toUInt64).toInt64) = (0 : Int64) then (if ((p1.toUInt64 >>> ((7 : Int32) &&& 0x3f).toInt64.toUInt64).toInt64) = (0 : Int64) then (1 : Int32) else (2 : Int32)) else (3 : Int32)) else (4 : Int32)) else (5 : Int32)), .unset, .unset, .unset, .unset, .unset, .unset] [(.long p1)]))
          refine Goes.on (fun t k => XS.bipush XJ4.here hx rfl (hb hby at_52) k) ?_
          show Goes p e below QQ (TJ4.setTop (mkF m 54 #[.val (.long p1), .second, .val (.long p2), .second, iv p3, iv p4, iv (if ((p1.toUInt64 >>> ((28 : Int32) &&& 0x3f).toInt64.toUInt64).toInt64) = (0 : Int64) then (if ((p1.toUInt64 >>> ((21 : Int32) &&& 0x3f).toInt64.toUInt64).toInt64) = (0 : Int64) then (if ((p1.toUInt64 >>> ((14 : Int32) &&& 0x3f).toInt64.toUInt64).toInt64) = (0 : Int64) then (if ((p1.toUInt64 >>> ((7 : Int32) &&& 0x3f).toInt64.toUInt64).toInt64) = (0 : Int64) then (1 : Int32) else (2 : Int32)) else (3 : Int32)) else (4 : Int32)) else (5 : Int32)), .unset, .unset, .unset, .unset, .unset, .unset] [(.int 35), (.long p1)]))
          refine Goes.on (fun t k => XS.lushr XJ4.here hx rfl (hb hby at_54) rfl k) ?_
          show Goes p e below QQ (TJ4.setTop (mkF m 55 #[.val (.long p1), .second, .val (.long p2), .second, iv p3, iv p4, iv (if ((p1.toUInt64 >>> ((28 : Int32) &&& 0x3f).toInt64.toUInt64).toInt64) = (0 : Int64) then (if ((p1.toUInt64 >>> ((21 : Int32) &&& 0x3f).toInt64.toUInt64).toInt64) = (0 : Int64) then (if ((p1.toUInt64 >>> ((14 : Int32) &&& 0x3f).toInt64.toUInt64).toInt64) = (0 : Int64) then (if ((p1.toUInt64 >>> ((7 : Int32) &&& 0x3f).toInt64.toUInt64).toInt64) = (0 : Int64) then (1 : Int32) else (2 : Int32)) else (3 : Int32)) else (4 : Int32)) else (5 : Int32)), .unset, .unset, .unset, .unset, .unset, .unset] [(.long ((p1.toUInt64 >>> ((35 : Int32) &&& 0x3f).toInt64.toUInt64).toInt64))]))
          refine Goes.on (fun t k => XS.lconst XJ4.here hx rfl (hb hby at_55) k) ?_
          show Goes p e below QQ (TJ4.setTop (mkF m 56 #[.val (.long p1), .second, .val (.long p2), .second, iv p3, iv p4, iv (if ((p1.toUInt64 >>> ((28 : Int32) &&& 0x3f).toInt64.toUInt64).toInt64) = (0 : Int64) then (if ((p1.toUInt64 >>> ((21 : Int32) &&& 0x3f).toInt64.toUInt64).toInt64) = (0 : Int64) then (if ((p1.toUInt64 >>> ((14 : Int32) &&& 0x3f).toInt64.toUInt64).toInt64) = (0 : Int64) then (if ((p1.toUInt64 >>> ((7 : Int32) &&& 0x3f).toInt64.toUInt64).toInt64) = (0 : Int64) then (1 : Int32) else (2 : Int32)) else (3 : Int32)) else (4 : Int32)) else (5 : Int32)), .unset, .unset, .unset, .unset, .unset, .unset] [(.long (0 : Int64)), (.long ((p1.toUInt64 >>> ((35 : Int32) &&& 0x3f).toInt64.toUInt64).toInt64))]))
          refine Goes.on (fun t k => XS.lcmp XJ4.here hx rfl (hb hby at_56) rfl k) ?_
          show Goes p e below QQ (TJ4.setTop (mkF m 57 #[.val (.long p1), .second, .val (.long p2), .second, iv p3, iv p4, iv (if ((p1.toUInt64 >>> ((28 : Int32) &&& 0x3f).toInt64.toUInt64).toInt64) = (0 : Int64) then (if ((p1.toUInt64 >>> ((21 : Int32) &&& 0x3f).toInt64.toUInt64).toInt64) = (0 : Int64) then (if ((p1.toUInt64 >>> ((14 : Int32) &&& 0x3f).toInt64.toUInt64).toInt64) = (0 : Int64) then (if ((p1.toUInt64 >>> ((7 : Int32) &&& 0x3f).toInt64.toUInt64).toInt64) = (0 : Int64) then (1 : Int32) else (2 : Int32)) else (3 : Int32)) else (4 : Int32)) else (5 : Int32)), .unset, .unset, .unset, .unset, .unset, .unset] [(.int (lcmpW ((p1.toUInt64 >>> ((35 : Int32) &&& 0x3f).toInt64.toUInt64).toInt64) (0 : Int64)))]))
          have J5 : ∀ (TJ5 : State) (lJ5 : List Loc), Stand p l e room_1 s m #[(.long p1), (.long p2), (.int p3), (.int p4)] below meth c TJ5 lJ5 0 0 → TJ5.heap = h0 → Fr n0 lJ5 → Goes p e below QQ (TJ5.setTop (mkF m 64 #[.val (.long p1), .second, .val (.long p2), .second, iv p3, iv p4, iv (if ((p1.toUInt64 >>> ((35 : Int32) &&& 0x3f).toInt64.toUInt64).toInt64) = (0 : Int64) then (if ((p1.toUInt64 >>> ((28 : Int32) &&& 0x3f).toInt64.toUInt64).toInt64) = (0 : Int64) then (if ((p1.toUInt64 >>> ((21 : Int32) &&& 0x3f).toInt64.toUInt64).toInt64) = (0 : Int64) then (if ((p1.toUInt64 >>> ((14 : Int32) &&& 0x3f).toInt64.toUInt64).toInt64) = (0 : Int64) then (if ((p1.toUInt64 >>> ((7 : Int32) &&& 0x3f).toInt64.toUInt64).toInt64) = (0 : Int64) then (1 : Int32) else (2 : Int32)) else (3 : Int32)) else (4 : Int32)) else (5 : Int32)) else (6 : Int32)), .unset, .unset, .unset, .unset, .unset, .unset] [])) := by
            intro TJ5 lJ5 XJ5 eJ5 NJ5
            refine Goes.on (fun t k => XS.lloadN XJ5.here hx rfl (hb hby at_64) rfl k) ?_
            show Goes p e below QQ (TJ5.setTop (mkF m 65 #[.val (.long p1), .second, .val (.long p2), .second, iv p3, iv p4, iv (if ((p1.toUInt64 >>> ((35 : Int32) &&& 0x3f).toInt64.toUInt64).toInt64) = (0 : Int64) then (if ((p1.toUInt64 >>> ((28 : Int32) &&& 0x3f).toInt64.toUInt64).toInt64) = (0 : Int64) then (if ((p1.toUInt64 >>> ((21 : Int32) &&& 0x3f).toInt64.toUInt64).toInt64) = (0 : Int64) then (if ((p1.toUInt64 >>> ((14 : Int32) &&& 0x3f).toInt64.toUInt64).toInt64) = (0 : Int64) then (if ((p1.toUInt64 >>> ((7 : Int32) &&& 0x3f).toInt64.toUInt64).toInt64) = (0 : Int64) then (1 : Int32) else (2 : Int32)) else (3 : Int32)) else (4 : Int32)) else (5 : Int32)) else (6 : Int32)), .unset, .unset, .unset, .unset, .unset, .unset] [(.long p1)]))
            refine Goes.on (fun t k => XS.bipush XJ5.here hx rfl (hb hby at_65) k) ?_
            show Goes p e below QQ (TJ5.setTop (mkF m 67 #[.val (.long p1), .second, .val (.long p2), .second, iv p3, iv p4, iv (if ((p1.toUInt64 >>> ((35 : Int32) &&& 0x3f).toInt64.toUInt64).toInt64) = (0 : Int64) then (if ((p1.toUInt64 >>> ((28 : Int32) &&& 0x3f).toInt64.toUInt64).toInt64) = (0 : Int64) then (if ((p1.toUInt64 >>> ((21 : Int32) &&& 0x3f).toInt64.toUInt64).toInt64) = (0 : Int64) then (if ((p1.toUInt64 >>> ((14 : Int32) &&& 0x3f).toInt64.toUInt64).toInt64) = (0 : Int64) then (if ((p1.toUInt64 >>> ((7 : Int32) &&& 0x3f).toInt64.toUInt64).toInt64) = (0 : Int64) then (1 : Int32) else (2 : Int32)) else (3 : Int32)) else (4 : Int32)) else (5 : Int32)) else (6 : Int32)), .unset, .unset, .unset, .unset, .unset, .unset] [(.int 42), (.long p1)]))
            refine Goes.on (fun t k => XS.lushr XJ5.here hx rfl (hb hby at_67) rfl k) ?_
            show Goes p e below QQ (TJ5.setTop (mkF m 68 #[.val (.long p1), .second, .val (.long p2), .second, iv p3, iv p4, iv (if ((p1.toUInt64 >>> ((35 : Int32) &&& 0x3f).toInt64.toUInt64).toInt64) = (0 : Int64) then (if ((p1.toUInt64 >>> ((28 : Int32) &&& 0x3f).toInt64.toUInt64).toInt64) = (0 : Int64) then (if ((p1.toUInt64 >>> ((21 : Int32) &&& 0x3f).toInt64.toUInt64).toInt64) = (0 : Int64) then (if ((p1.toUInt64 >>> ((14 : Int32) &&& 0x3f).toInt64.toUInt64).toInt64) = (0 : Int64) then (if ((p1.toUInt64 >>> ((7 : Int32) &&& 0x3f).toInt64.toUInt64).toInt64) = (0 : Int64) then (1 : Int32) else (2 : Int32)) else (3 : Int32)) else (4 : Int32)) else (5 : Int32)) else (6 : Int32)), .unset, .unset, .unset, .unset, .unset, .unset] [(.long ((p1.toUInt64 >>> ((42 : Int32) &&& 0x3f).toInt64.toUInt64).toInt64))]))
            refine Goes.on (fun t k => XS.lconst XJ5.here hx rfl (hb hby at_68) k) ?_
            show Goes p e below QQ (TJ5.setTop (mkF m 69 #[.val (.long p1), .second, .val (.long p2), .second, iv p3, iv p4, iv (if ((p1.toUInt64 >>> ((35 : Int32) &&& 0x3f).toInt64.toUInt64).toInt64) = (0 : Int64) then (if ((p1.toUInt64 >>> ((28 : Int32) &&& 0x3f).toInt64.toUInt64).toInt64) = (0 : Int64) then (if ((p1.toUInt64 >>> ((21 : Int32) &&& 0x3f).toInt64.toUInt64).toInt64) = (0 : Int64) then (if ((p1.toUInt64 >>> ((14 : Int32) &&& 0x3f).toInt64.toUInt64).toInt64) = (0 : Int64) then (if ((p1.toUInt64 >>> ((7 : Int32) &&& 0x3f).toInt64.toUInt64).toInt64) = (0 : Int64) then (1 : Int32) else (2 : Int32)) else (3 : Int32)) else (4 : Int32)) else (5 : Int32)) else (6 : Int32)), .unset, .unset, .unset, .unset, .unset, .unset] [(.long (0 : Int64)), (.long ((p1.toUInt64 >>> ((42 : Int32) &&& 0x3f).toInt64.toUInt64).toInt64))]))
            refine Goes.on (fun t k => XS.lcmp XJ5.here hx rfl (hb hby at_69) rfl k) ?_
            show Goes p e below QQ (TJ5.setTop (mkF m 70 #[.val (.long p1), .second, .val (.long p2), .second, iv p3, iv p4, iv (if ((p1.toUInt64 >>> ((35 : Int32) &&& 0x3f).toInt64.toUInt64).toInt64) = (0 : Int64) then (if ((p1.toUInt64 >>> ((28 : Int32) &&& 0x3f).toInt64.toUInt64).toInt64) = (0 : Int64) then (if ((p1.toUInt64 >>> ((21 : Int32) &&& 0x3f).toInt64.toUInt64).toInt64) = (0 : Int64) then (if ((p1.toUInt64 >>> ((14 : Int32) &&& 0x3f).toInt64.toUInt64).toInt64) = (0 : Int64) then (if ((p1.toUInt64 >>> ((7 : Int32) &&& 0x3f).toInt64.toUInt64).toInt64) = (0 : Int64) then (1 : Int32) else (2 : Int32)) else (3 : Int32)) else (4 : Int32)) else (5 : Int32)) else (6 : Int32)), .unset, .unset, .unset, .unset, .unset, .unset] [(.int (lcmpW ((p1.toUInt64 >>> ((42 : Int32) &&& 0x3f).toInt64.toUInt64).toInt64) (0 : Int64)))]))
            have J6 : ∀ (TJ6 : State) (lJ6 : List Loc), Stand p l e room_1 s m #[(.long p1), (.long p2), (.int p3), (.int p4)] below meth c TJ6 lJ6 0 0 → TJ6.heap = h0 → Fr n0 lJ6 → Goes p e below QQ (TJ6.setTop (mkF m 77 #[.val (.long p1), .second, .val (.long p2), .second, iv p3, iv p4, iv (if ((p1.toUInt64 >>> ((42 : Int32) &&& 0x3f).toInt64.toUInt64).toInt64) = (0 : Int64) then (if ((p1.toUInt64 >>> ((35 : Int32) &&& 0x3f).toInt64.toUInt64).toInt64) = (0 : Int64) then (if ((p1.toUInt64 >>> ((28 : Int32) &&& 0x3f).toInt64.toUInt64).toInt64) = (0 : Int64) then (if ((p1.toUInt64 >>> ((21 : Int32) &&& 0x3f).toInt64.toUInt64).toInt64) = (0 : Int64) then (if ((p1.toUInt64 >>> ((14 : Int32) &&& 0x3f).toInt64.toUInt64).toInt64) = (0 : Int64) then (if ((p1.toUInt64 >>> ((7 : Int32) &&& 0x3f).toInt64.toUInt64).toInt64) = (0 : Int64) then (1 : Int32) else (2 : Int32)) else (3 : Int32)) else (4 : Int32)) else (5 : Int32)) else (6 : Int32)) else (7 : Int32)), .unset, .unset, .unset, .unset, .unset, .unset] [])) := by
              intro TJ6 lJ6 XJ6 eJ6 NJ6
              refine Goes.on (fun t k => XS.lloadN XJ6.here hx rfl (hb hby at_77) rfl k) ?_
              show Goes p e below QQ (TJ6.setTop (mkF m 78 #[.val (.long p1), .second, .val (.long p2), .second, iv p3, iv p4, iv (if ((p1.toUInt64 >>> ((42 : Int32) &&& 0x3f).toInt64.toUInt64).toInt64) = (0 : Int64) then (if ((p1.toUInt64 >>> ((35 : Int32) &&& 0x3f).toInt64.toUInt64).toInt64) = (0 : Int64) then (if ((p1.toUInt64 >>> ((28 : Int32) &&& 0x3f).toInt64.toUInt64).toInt64) = (0 : Int64) then (if ((p1.toUInt64 >>> ((21 : Int32) &&& 0x3f).toInt64.toUInt64).toInt64) = (0 : Int64) then (if ((p1.toUInt64 >>> ((14 : Int32) &&& 0x3f).toInt64.toUInt64).toInt64) = (0 : Int64) then (if ((p1.toUInt64 >>> ((7 : Int32) &&& 0x3f).toInt64.toUInt64).toInt64) = (0 : Int64) then (1 : Int32) else (2 : Int32)) else (3 : Int32)) else (4 : Int32)) else (5 : Int32)) else (6 : Int32)) else (7 : Int32)), .unset, .unset, .unset, .unset, .unset, .unset] [(.long p1)]))
              refine Goes.on (fun t k => XS.bipush XJ6.here hx rfl (hb hby at_78) k) ?_
              show Goes p e below QQ (TJ6.setTop (mkF m 80 #[.val (.long p1), .second, .val (.long p2), .second, iv p3, iv p4, iv (if ((p1.toUInt64 >>> ((42 : Int32) &&& 0x3f).toInt64.toUInt64).toInt64) = (0 : Int64) then (if ((p1.toUInt64 >>> ((35 : Int32) &&& 0x3f).toInt64.toUInt64).toInt64) = (0 : Int64) then (if ((p1.toUInt64 >>> ((28 : Int32) &&& 0x3f).toInt64.toUInt64).toInt64) = (0 : Int64) then (if ((p1.toUInt64 >>> ((21 : Int32) &&& 0x3f).toInt64.toUInt64).toInt64) = (0 : Int64) then (if ((p1.toUInt64 >>> ((14 : Int32) &&& 0x3f).toInt64.toUInt64).toInt64) = (0 : Int64) then (if ((p1.toUInt64 >>> ((7 : Int32) &&& 0x3f).toInt64.toUInt64).toInt64) = (0 : Int64) then (1 : Int32) else (2 : Int32)) else (3 : Int32)) else (4 : Int32)) else (5 : Int32)) else (6 : Int32)) else (7 : Int32)), .unset, .unset, .unset, .unset, .unset, .unset] [(.int 49), (.long p1)]))
              refine Goes.on (fun t k => XS.lushr XJ6.here hx rfl (hb hby at_80) rfl k) ?_
              show Goes p e below QQ (TJ6.setTop (mkF m 81 #[.val (.long p1), .second, .val (.long p2), .second, iv p3, iv p4, iv (if ((p1.toUInt64 >>> ((42 : Int32) &&& 0x3f).toInt64.toUInt64).toInt64) = (0 : Int64) then (if ((p1.toUInt64 >>> ((35 : Int32) &&& 0x3f).toInt64.toUInt64).toInt64) = (0 : Int64) then (if ((p1.toUInt64 >>> ((28 : Int32) &&& 0x3f).toInt64.toUInt64).toInt64) = (0 : Int64) then (if ((p1.toUInt64 >>> ((21 : Int32) &&& 0x3f).toInt64.toUInt64).toInt64) = (0 : Int64) then (if ((p1.toUInt64 >>> ((14 : Int32) &&& 0x3f).toInt64.toUInt64).toInt64) = (0 : Int64) then (if ((p1.toUInt64 >>> ((7 : Int32) &&& 0x3f).toInt64.toUInt64).toInt64) = (0 : Int64) then (1 : Int32) else (2 : Int32)) else (3 : Int32)) else (4 : Int32)) else (5 : Int32)) else (6 : Int32)) else (7 : Int32)), .unset, .unset, .unset, .unset, .unset, .unset] [(.long ((p1.toUInt64 >>> ((49 : Int32) &&& 0x3f).toInt64.toUInt64).toInt64))]))
              refine Goes.on (fun t k => XS.lconst XJ6.here hx rfl (hb hby at_81) k) ?_
              show Goes p e below QQ (TJ6.setTop (mkF m 82 #[.val (.long p1), .second, .val (.long p2), .second, iv p3, iv p4, iv (if ((p1.toUInt64 >>> ((42 : Int32) &&& 0x3f).toInt64.toUInt64).toInt64) = (0 : Int64) then (if ((p1.toUInt64 >>> ((35 : Int32) &&& 0x3f).toInt64.toUInt64).toInt64) = (0 : Int64) then (if ((p1.toUInt64 >>> ((28 : Int32) &&& 0x3f).toInt64.toUInt64).toInt64) = (0 : Int64) then (if ((p1.toUInt64 >>> ((21 : Int32) &&& 0x3f).toInt64.toUInt64).toInt64) = (0 : Int64) then (if ((p1.toUInt64 >>> ((14 : Int32) &&& 0x3f).toInt64.toUInt64).toInt64) = (0 : Int64) then (if ((p1.toUInt64 >>> ((7 : Int32) &&& 0x3f).toInt64.toUInt64).toInt64) = (0 : Int64) then (1 : Int32) else (2 : Int32)) else (3 : Int32)) else (4 : Int32)) else (5 : Int32)) else (6 : Int32)) else (7 : Int32)), .unset, .unset, .unset, .unset, .unset, .unset] [(.long (0 : Int64)), (.long ((p1.toUInt64 >>> ((49 : Int32) &&& 0x3f).toInt64.toUInt64).toInt64))]))
              refine Goes.on (fun t k => XS.lcmp XJ6.here hx rfl (hb hby at_82) rfl k) ?_
              show Goes p e below QQ (TJ6.setTop (mkF m 83 #[.val (.long p1), .second, .val (.long p2), .second, iv p3, iv p4, iv (if ((p1.toUInt64 >>> ((42 : Int32) &&& 0x3f).toInt64.toUInt64).toInt64) = (0 : Int64) then (if ((p1.toUInt64 >>> ((35 : Int32) &&& 0x3f).toInt64.toUInt64).toInt64) = (0 : Int64) then (if ((p1.toUInt64 >>> ((28 : Int32) &&& 0x3f).toInt64.toUInt64).toInt64) = (0 : Int64) then (if ((p1.toUInt64 >>> ((21 : Int32) &&& 0x3f).toInt64.toUInt64).toInt64) = (0 : Int64) then (if ((p1.toUInt64 >>> ((14 : Int32) &&& 0x3f).toInt64.toUInt64).toInt64) = (0 : Int64) then (if ((p1.toUInt64 >>> ((7 : Int32) &&& 0x3f).toInt64.toUInt64).toInt64) = (0 : Int64) then (1 : Int32) else (2 : Int32)) else (3 : Int32)) else (4 : Int32)) else (5 : Int32)) else (6 : Int32)) else (7 : Int32)), .unset, .unset, .unset, .unset, .unset, .unset] [(.int (lcmpW ((p1.toUInt64 >>> ((49 : Int32) &&& 0x3f).toInt64.toUInt64).toInt64) (0 : Int64)))]))
              have J7 : ∀ (TJ7 : State) (lJ7 : List Loc), Stand p l e room_1 s m #[(.long p1), (.long p2), (.int p3), (.int p4)] below meth c TJ7 lJ7 0 0 → TJ7.heap = h0 → Fr n0 lJ7 → Goes p e below QQ (TJ7.setTop (mkF m 90 #[.val (.long p1), .second, .val (.long p2), .second, iv p3, iv p4, iv (if ((p1.toUInt64 >>> ((49 : Int32) &&& 0x3f).toInt64.toUInt64).toInt64) = (0 : Int64) then (if ((p1.toUInt64 >>> ((42 : Int32) &&& 0x3f).toInt64.toUInt64).toInt64) = (0 : Int64) then (if ((p1.toUInt64 >>> ((35 : Int32) &&& 0x3f).toInt64.toUInt64).toInt64) = (0 : Int64) then (if ((p1.toUInt64 >>> ((28 : Int32) &&& 0x3f).toInt64.toUInt64).toInt64) = (0 : Int64) then (if ((p1.toUInt64 >>> ((21 : Int32) &&& 0x3f).toInt64.toUInt64).toInt64) = (0 : Int64) then (if ((p1.toUInt64 >>> ((14 : Int32) &&& 0x3f).toInt64.toUInt64).toInt64) = (0 : Int64) then (if ((p1.toUInt64 >>> ((7 : Int32) &&& 0x3f).toInt64.toUInt64).toInt64) = (0 : Int64) then (1 : Int32) else (2 : Int32)) else (3 : Int32)) else (4 : Int32)) else (5 : Int32)) else (6 : Int32)) else (7 : Int32)) else (8 : Int32)), .unset, .unset, .unset, .unset, .unset, .unset] [])) := by
                intro TJ7 lJ7 XJ7 eJ7 NJ7
                refine Goes.on (fun t k => XS.lloadN XJ7.here hx rfl (hb hby at_90) rfl k) ?_
                show Goes p e below QQ (TJ7.setTop (mkF m 91 #[.val (.long p1), .second, .val (.long p2), .second, iv p3, iv p4, iv (if ((p1.toUInt64 >>> ((49 : Int32) &&& 0x3f).toInt64.toUInt64).toInt64) = (0 : Int64) then (if ((p1.toUInt64 >>> ((42 : Int32) &&& 0x3f).toInt64.toUInt64).toInt64) = (0 : Int64) then (if ((p1.toUInt64 >>> ((35 : Int32) &&& 0x3f).toInt64.toUInt64).toInt64) = (0 : Int64) then (if ((p1.toUInt64 >>> ((28 : Int32) &&& 0x3f).toInt64.toUInt64).toInt64) = (0 : Int64) then (if ((p1.toUInt64 >>> ((21 : Int32) &&& 0x3f).toInt64.toUInt64).toInt64) = (0 : Int64) then (if ((p1.toUInt64 >>> ((14 : Int32) &&& 0x3f).toInt64.toUInt64).toInt64) = (0 : Int64) then (if ((p1.toUInt64 >>> ((7 : Int32) &&& 0x3f).toInt64.toUInt64).toInt64) = (0 : Int64) then (1 : Int32) else (2 : Int32)) else (3 : Int32)) else (4 : Int32)) else (5 : Int32)) else (6 : Int32)) else (7 : Int32)) else (8 : Int32)), .unset, .unset, .unset, .unset, .unset, .unset] [(.long p1)]))
                refine Goes.on (fun t k => XS.bipush XJ7.here hx rfl (hb hby at_91) k) ?_
                show Goes p e below QQ (TJ7.setTop (mkF m 93 #[.val (.long p1), .second, .val (.long p2), .second, iv p3, iv p4, iv (if ((p1.toUInt64 >>> ((49 : Int32) &&& 0x3f).toInt64.toUInt64).toInt64) = (0 : Int64) then (if ((p1.toUInt64 >>> ((42 : Int32) &&& 0x3f).toInt64.toUInt64).toInt64) = (0 : Int64) then (if ((p1.toUInt64 >>> ((35 : Int32) &&& 0x3f).toInt64.toUInt64).toInt64) = (0 : Int64) then (if ((p1.toUInt64 >>> ((28 : Int32) &&& 0x3f).toInt64.toUInt64).toInt64) = (0 : Int64) then (if ((p1.toUInt64 >>> ((21 : Int32) &&& 0x3f).toInt64.toUInt64).toInt64) = (0 : Int64) then (if ((p1.toUInt64 >>> ((14 : Int32) &&& 0x3f).toInt64.toUInt64).toInt64) = (0 : Int64) then (if ((p1.toUInt64 >>> ((7 : Int32) &&& 0x3f).toInt64.toUInt64).toInt64) = (0 : Int64) then (1 : Int32) else (2 : Int32)) else (3 : Int32)) else (4 : Int32)) else (5 : Int32)) else (6 : Int32)) else (7 : Int32)) else (8 : Int32)), .unset, .unset, .unset, .unset, .unset, .unset] [(.int 56), (.long p1)]))
                refine Goes.on (fun t k => XS.lushr XJ7.here hx rfl (hb hby at_93) rfl k) ?_
                show Goes p e below QQ (TJ7.setTop (mkF m 94 #[.val (.long p1), .second, .val (.long p2), .second, iv p3, iv p4, iv (if ((p1.toUInt64 >>> ((49 : Int32) &&& 0x3f).toInt64.toUInt64).toInt64) = (0 : Int64) then (if ((p1.toUInt64 >>> ((42 : Int32) &&& 0x3f).toInt64.toUInt64).toInt64) = (0 : Int64) then (if ((p1.toUInt64 >>> ((35 : Int32) &&& 0x3f).toInt64.toUInt64).toInt64) = (0 : Int64) then (if ((p1.toUInt64 >>> ((28 : Int32) &&& 0x3f).toInt64.toUInt64).toInt64) = (0 : Int64) then (if ((p1.toUInt64 >>> ((21 : Int32) &&& 0x3f).toInt64.toUInt64).toInt64) = (0 : Int64) then (if ((p1.toUInt64 >>> ((14 : Int32) &&& 0x3f).toInt64.toUInt64).toInt64) = (0 : Int64) then (if ((p1.toUInt64 >>> ((7 : Int32) &&& 0x3f).toInt64.toUInt64).toInt64) = (0 : Int64) then (1 : Int32) else (2 : Int32)) else (3 : Int32)) else (4 : Int32)) else (5 : Int32)) else (6 : Int32)) else (7 : Int32)) else (8 : Int32)), .unset, .unset, .unset, .unset, .unset, .unset] [(.long ((p1.toUInt64 >>> ((56 : Int32) &&& 0x3f).toInt64.toUInt64).toInt64))]))
                refine Goes.on (fun t k => XS.lconst XJ7.here hx rfl (hb hby at_94) k) ?_
                show Goes p e below QQ (TJ7.setTop (mkF m 95 #[.val (.long p1), .second, .val (.long p2), .second, iv p3, iv p4, iv (if ((p1.toUInt64 >>> ((49 : Int32) &&& 0x3f).toInt64.toUInt64).toInt64) = (0 : Int64) then (if ((p1.toUInt64 >>> ((42 : Int32) &&& 0x3f).toInt64.toUInt64).toInt64) = (0 : Int64) then (if ((p1.toUInt64 >>> ((35 : Int32) &&& 0x3f).toInt64.toUInt64).toInt64) = (0 : Int64) then (if ((p1.toUInt64 >>> ((28 : Int32) &&& 0x3f).toInt64.toUInt64).toInt64) = (0 : Int64) then (if ((p1.toUInt64 >>> ((21 : Int32) &&& 0x3f).toInt64.toUInt64).toInt64) = (0 : Int64) then (if ((p1.toUInt64 >>> ((14 : Int32) &&& 0x3f).toInt64.toUInt64).toInt64) = (0 : Int64) then (if ((p1.toUInt64 >>> ((7 : Int32) &&& 0x3f).toInt64.toUInt64).toInt64) = (0 : Int64) then (1 : Int32) else (2 : Int32)) else (3 : Int32)) else (4 : Int32)) else (5 : Int32)) else (6 : Int32)) else (7 : Int32)) else (8 : Int32)), .unset, .unset, .unset, .unset, .unset, .unset] [(.long (0 : Int64)), (.long ((p1.toUInt64 >>> ((56 : Int32) &&& 0x3f).toInt64.toUInt64).toInt64))]))
                refine Goes.on (fun t k => XS.lcmp XJ7.here hx rfl (hb hby at_95) rfl k) ?_
                show Goes p e below QQ (TJ7.setTop (mkF m 96 #[.val (.long p1), .second, .val (.long p2), .second, iv p3, iv p4, iv (if ((p1.toUInt64 >>> ((49 : Int32) &&& 0x3f).toInt64.toUInt64).toInt64) = (0 : Int64) then (if ((p1.toUInt64 >>> ((42 : Int32) &&& 0x3f).toInt64.toUInt64).toInt64) = (0 : Int64) then (if ((p1.toUInt64 >>> ((35 : Int32) &&& 0x3f).toInt64.toUInt64).toInt64) = (0 : Int64) then (if ((p1.toUInt64 >>> ((28 : Int32) &&& 0x3f).toInt64.toUInt64).toInt64) = (0 : Int64) then (if ((p1.toUInt64 >>> ((21 : Int32) &&& 0x3f).toInt64.toUInt64).toInt64) = (0 : Int64) then (if ((p1.toUInt64 >>> ((14 : Int32) &&& 0x3f).toInt64.toUInt64).toInt64) = (0 : Int64) then (if ((p1.toUInt64 >>> ((7 : Int32) &&& 0x3f).toInt64.toUInt64).toInt64) = (0 : Int64) then (1 : Int32) else (2 : Int32)) else (3 : Int32)) else (4 : Int32)) else (5 : Int32)) else (6 : Int32)) else (7 : Int32)) else (8 : Int32)), .unset, .unset, .unset, .unset, .unset, .unset] [(.int (lcmpW ((p1.toUInt64 >>> ((56 : Int32) &&& 0x3f).toInt64.toUInt64).toInt64) (0 : Int64)))]))
                have J8 : ∀ (TJ8 : State) (lJ8 : List Loc), Stand p l e room_1 s m #[(.long p1), (.long p2), (.int p3), (.int p4)] below meth c TJ8 lJ8 0 0 → TJ8.heap = h0 → Fr n0 lJ8 → Goes p e below QQ (TJ8.setTop (mkF m 103 #[.val (.long p1), .second, .val (.long p2), .second, iv p3, iv p4, iv (if ((p1.toUInt64 >>> ((56 : Int32) &&& 0x3f).toInt64.toUInt64).toInt64) = (0 : Int64) then (if ((p1.toUInt64 >>> ((49 : Int32) &&& 0x3f).toInt64.toUInt64).toInt64) = (0 : Int64) then (if ((p1.toUInt64 >>> ((42 : Int32) &&& 0x3f).toInt64.toUInt64).toInt64) = (0 : Int64) then (if ((p1.toUInt64 >>> ((35 : Int32) &&& 0x3f).toInt64.toUInt64).toInt64) = (0 : Int64) then (if ((p1.toUInt64 >>> ((28 : Int32) &&& 0x3f).toInt64.toUInt64).toInt64) = (0 : Int64) then (if ((p1.toUInt64 >>> ((21 : Int32) &&& 0x3f).toInt64.toUInt64).toInt64) = (0 : Int64) then (if ((p1.toUInt64 >>> ((14 : Int32) &&& 0x3f).toInt64.toUInt64).toInt64) = (0 : Int64) then (if ((p1.toUInt64 >>> ((7 : Int32) &&& 0x3f).toInt64.toUInt64).toInt64) = (0 : Int64) then (1 : Int32) else (2 : Int32)) else (3 : Int32)) else (4 : Int32)) else (5 : Int32)) else (6 : Int32)) else (7 : Int32)) else (8 : Int32)) else (9 : Int32)), .unset, .unset, .unset, .unset, .unset, .unset] [])) := by
                  intro TJ8 lJ8 XJ8 eJ8 NJ8
                  refine Goes.on (fun t k => XS.lloadN XJ8.here hx rfl (hb hby at_103) rfl k) ?_
                  show Goes p e below QQ (TJ8.setTop (mkF m 104 #[.val (.long p1), .second, .val (.long p2), .second, iv p3, iv p4, iv (if ((p1.toUInt64 >>> ((56 : Int32) &&& 0x3f).toInt64.toUInt64).toInt64) = (0 : Int64) then (if ((p1.toUInt64 >>> ((49 : Int32) &&& 0x3f).toInt64.toUInt64).toInt64) = (0 : Int64) then (if ((p1.toUInt64 >>> ((42 : Int32) &&& 0x3f).toInt64.toUInt64).toInt64) = (0 : Int64) then (if ((p1.toUInt64 >>> ((35 : Int32) &&& 0x3f).toInt64.toUInt64).toInt64) = (0 : Int64) then (if ((p1.toUInt64 >>> ((28 : Int32) &&& 0x3f).toInt64.toUInt64).toInt64) = (0 : Int64) then (if ((p1.toUInt64 >>> ((21 : Int32) &&& 0x3f).toInt64.toUInt64).toInt64) = (0 : Int64) then (if ((p1.toUInt64 >>> ((14 : Int32) &&& 0x3f).toInt64.toUInt64).toInt64) = (0 : Int64) then (if ((p1.toUInt64 >>> ((7 : Int32) &&& 0x3f).toInt64.toUInt64).toInt64) = (0 : Int64) then (1 : Int32) else (2 : Int32)) else (3 : Int32)) else (4 : Int32)) else (5 : Int32)) else (6 : Int32)) else (7 : Int32)) else (8 : Int32)) else (9 : Int32)), .unset, .unset, .unset, .unset, .unset, .unset] [(.long p1)]))
                  refine Goes.on (fun t k => XS.bipush XJ8.here hx rfl (hb hby at_104) k) ?_
                  show Goes p e below QQ (TJ8.setTop (mkF m 106 #[.val (.long p1), .second, .val (.long p2), .second, iv p3, iv p4, iv (if ((p1.toUInt64 >>> ((56 : Int32) &&& 0x3f).toInt64.toUInt64).toInt64) = (0 : Int64) then (if ((p1.toUInt64 >>> ((49 : Int32) &&& 0x3f).toInt64.toUInt64).toInt64) = (0 : Int64) then (if ((p1.toUInt64 >>> ((42 : Int32) &&& 0x3f).toInt64.toUInt64).toInt64) = (0 : Int64) then (if ((p1.toUInt64 >>> ((35 : Int32) &&& 0x3f).toInt64.toUInt64).toInt64) = (0 : Int64) then (if ((p1.toUInt64 >>> ((28 : Int32) &&& 0x3f).toInt64.toUInt64).toInt64) = (0 : Int64) then (if ((p1.toUInt64 >>> ((21 : Int32) &&& 0x3f).toInt64.toUInt64).toInt64) = (0 : Int64) then (if ((p1.toUInt64 >>> ((14 : Int32) &&& 0x3f).toInt64.toUInt64).toInt64) = (0 : Int64) then (if ((p1.toUInt64 >>> ((7 : Int32) &&& 0x3f).toInt64.toUInt64).toInt64) = (0 : Int64) then (1 : Int32) else (2 : Int32)) else (3 : Int32)) else (4 : Int32)) else (5 : Int32)) else (6 : Int32)) else (7 : Int32)) else (8 : Int32)) else (9 : Int32)), .unset, .unset, .unset, .unset, .unset, .unset] [(.int 63), (.long p1)]))
                  refine Goes.on (fun t k => XS.lushr XJ8.here hx rfl (hb hby at_106) rfl k) ?_
                  show Goes p e below QQ (TJ8.setTop (mkF m 107 #[.val (.long p1), .second, .val (.long p2), .second, iv p3, iv p4, iv (if ((p1.toUInt64 >>> ((56 : Int32) &&& 0x3f).toInt64.toUInt64).toInt64) = (0 : Int64) then (if ((p1.toUInt64 >>> ((49 : Int32) &&& 0x3f).toInt64.toUInt64).toInt64) = (0 : Int64) then (if ((p1.toUInt64 >>> ((42 : Int32) &&& 0x3f).toInt64.toUInt64).toInt64) = (0 : Int64) then (if ((p1.toUInt64 >>> ((35 : Int32) &&& 0x3f).toInt64.toUInt64).toInt64) = (0 : Int64) then (if ((p1.toUInt64 >>> ((28 : Int32) &&& 0x3f).toInt64.toUInt64).toInt64) = (0 : Int64) then (if ((p1.toUInt64 >>> ((21 : Int32) &&& 0x3f).toInt64.toUInt64).toInt64) = (0 : Int64) then (if ((p1.toUInt64 >>> ((14 : Int32) &&& 0x3f).toInt64.toUInt64).toInt64) = (0 : Int64) then (if ((p1.toUInt64 >>> ((7 : Int32) &&& 0x3f).toInt64.toUInt64).toInt64) = (0 : Int64) then (1 : Int32) else (2 : Int32)) else (3 : Int32)) else (4 : Int32)) else (5 : Int32)) else (6 : Int32)) else (7 : Int32)) else (8 : Int32)) else (9 : Int32)), .unset, .unset, .unset, .unset, .unset, .unset] [(.long ((p1.toUInt64 >>> ((63 : Int32) &&& 0x3f).toInt64.toUInt64).toInt64))]))
                  refine Goes.on (fun t k => XS.lconst XJ8.here hx rfl (hb hby at_107) k) ?_
                  show Goes p e below QQ (TJ8.setTop (mkF m 108 #[.val (.long p1), .second, .val (.long p2), .second, iv p3, iv p4, iv (if ((p1.toUInt64 >>> ((56 : Int32) &&& 0x3f).toInt64.toUInt64).toInt64) = (0 : Int64) then (if ((p1.toUInt64 >>> ((49 : Int32) &&& 0x3f).toInt64.toUInt64).toInt64) = (0 : Int64) then (if ((p1.toUInt64 >>> ((42 : Int32) &&& 0x3f).toInt64.toUInt64).toInt64) = (0 : Int64) then (if ((p1.toUInt64 >>> ((35 : Int32) &&& 0x3f).toInt64.toUInt64).toInt64) = (0 : Int64) then (if ((p1.toUInt64 >>> ((28 : Int32) &&& 0x3f).toInt64.toUInt64).toInt64) = (0 : Int64) then (if ((p1.toUInt64 >>> ((21 : Int32) &&& 0x3f).toInt64.toUInt64).toInt64) = (0 : Int64) then (if ((p1.toUInt64 >>> ((14 : Int32) &&& 0x3f).toInt64.toUInt64).toInt64) = (0 : Int64) then (if ((p1.toUInt64 >>> ((7 : Int32) &&& 0x3f).toInt64.toUInt64).toInt64) = (0 : Int64) then (1 : Int32) else (2 : Int32)) else (3 : Int32)) else (4 : Int32)) else (5 : Int32)) else (6 : Int32)) else (7 : Int32)) else (8 : Int32)) else (9 : Int32)), .unset, .unset, .unset, .unset, .unset, .unset] [(.long (0 : Int64)), (.long ((p1.toUInt64 >>> ((63 : Int32) &&& 0x3f).toInt64.toUInt64).toInt64))]))
                  refine Goes.on (fun t k => XS.lcmp XJ8.here hx rfl (hb hby at_108) rfl k) ?_
                  show Goes p e below QQ (TJ8.setTop (mkF m 109 #[.val (.long p1), .second, .val (.long p2), .second, iv p3, iv p4, iv (if ((p1.toUInt64 >>> ((56 : Int32) &&& 0x3f).toInt64.toUInt64).toInt64) = (0 : Int64) then (if ((p1.toUInt64 >>> ((49 : Int32) &&& 0x3f).toInt64.toUInt64).toInt64) = (0 : Int64) then (if ((p1.toUInt64 >>> ((42 : Int32) &&& 0x3f).toInt64.toUInt64).toInt64) = (0 : Int64) then (if ((p1.toUInt64 >>> ((35 : Int32) &&& 0x3f).toInt64.toUInt64).toInt64) = (0 : Int64) then (if ((p1.toUInt64 >>> ((28 : Int32) &&& 0x3f).toInt64.toUInt64).toInt64) = (0 : Int64) then (if ((p1.toUInt64 >>> ((21 : Int32) &&& 0x3f).toInt64.toUInt64).toInt64) = (0 : Int64) then (if ((p1.toUInt64 >>> ((14 : Int32) &&& 0x3f).toInt64.toUInt64).toInt64) = (0 : Int64) then (if ((p1.toUInt64 >>> ((7 : Int32) &&& 0x3f).toInt64.toUInt64).toInt64) = (0 : Int64) then (1 : Int32) else (2 : Int32)) else (3 : Int32)) else (4 : Int32)) else (5 : Int32)) else (6 : Int32)) else (7 : Int32)) else (8 : Int32)) else (9 : Int32)), .unset, .unset, .unset, .unset, .unset, .unset] [(.int (lcmpW ((p1.toUInt64 >>> ((63 : Int32) &&& 0x3f).toInt64.toUInt64).toInt64) (0 : Int64)))]))
                  have J9 : ∀ (TJ9 : State) (lJ9 : List Loc), Stand p l e room_1 s m #[(.long p1), (.long p2), (.int p3), (.int p4)] below meth c TJ9 lJ9 0 0 → TJ9.heap = h0 → Fr n0 lJ9 → Goes p e below QQ (TJ9.setTop (mkF m 116 #[.val (.long p1), .second, .val (.long p2), .second, iv p3, iv p4, iv (if ((p1.toUInt64 >>> ((63 : Int32) &&& 0x3f).toInt64.toUInt64).toInt64) = (0 : Int64) then (if ((p1.toUInt64 >>> ((56 : Int32) &&& 0x3f).toInt64.toUInt64).toInt64) = (0 : Int64) then (if ((p1.toUInt64 >>> ((49 : Int32) &&& 0x3f).toInt64.toUInt64).toInt64) = (0 : Int64) then (if ((p1.toUInt64 >>> ((42 : Int32) &&& 0x3f).toInt64.toUInt64).toInt64) = (0 : Int64) then (if ((p1.toUInt64 >>> ((35 : Int32) &&& 0x3f).toInt64.toUInt64).toInt64) = (0 : Int64) then (if ((p1.toUInt64 >>> ((28 : Int32) &&& 0x3f).toInt64.toUInt64).toInt64) = (0 : Int64) then (if ((p1.toUInt64 >>> ((21 : Int32) &&& 0x3f).toInt64.toUInt64).toInt64) = (0 : Int64) then (if ((p1.toUInt64 >>> ((14 : Int32) &&& 0x3f).toInt64.toUInt64).toInt64) = (0 : Int64) then (if ((p1.toUInt64 >>> ((7 : Int32) &&& 0x3f).toInt64.toUInt64).toInt64) = (0 : Int64) then (1 : Int32) else (2 : Int32)) else (3 : Int32)) else (4 : Int32)) else (5 : Int32)) else (6 : Int32)) else (7 : Int32)) else (8 : Int32)) else (9 : Int32)) else (10 : Int32)), .unset, .unset, .unset, .unset, .unset, .unset] [])) := by
                    intro TJ9 lJ9 XJ9 eJ9 NJ9
                    show Goes p e below QQ (TJ9.setTop (mkF m 116 #[.val (.long p1), .second, .val (.long p2), .second, iv p3, iv p4, iv (lenF p1), .unset, .unset, .unset, .unset, .unset, .unset] []))
                    have hlen := own_lenF p1
                    generalize lenF p1 = ln at *
                    show Goes p e below QQ (TJ9.setTop (mkF m 116 #[.val (.long p1), .second, .val (.long p2), .second, iv p3, iv p4, iv ln, .unset, .unset, .unset, .unset, .unset, .unset] []))
                    have hnz := own_nz ln hlen.1 hlen.2.1
                    refine Goes.on (fun t k => XS.iload XJ9.here hx rfl (hb hby at_116) rfl k) ?_
                    show Goes p e below QQ (TJ9.setTop (mkF m 118 #[.val (.long p1), .second, .val (.long p2), .second, iv p3, iv p4, iv ln, .unset, .unset, .unset, .unset, .unset, .unset] [(.int ln)]))
                    refine Goes.on (fun t k => XS.iload XJ9.here hx rfl (hb hby at_118) rfl k) ?_
                    show Goes p e below QQ (TJ9.setTop (mkF m 120 #[.val (.long p1), .second, .val (.long p2), .second, iv p3, iv p4, iv ln, .unset, .unset, .unset, .unset, .unset, .unset] [(.int p4), (.int ln)]))
                    refine Goes.on (fun t k => XJ9.ldcInt hx hown (mvT hZ (hw _ (List.mem_of_getElem? (i := 0) rfl))) (g := (mkF m 120 #[.val (.long p1), .second, .val (.long p2), .second, iv p3, iv p4, iv ln, .unset, .unset, .unset, .unset, .unset, .unset] [(.int p4), (.int ln)])) rfl (hb hby at_120) t k) ?_
                    show Goes p e below QQ (TJ9.setTop (mkF m 122 #[.val (.long p1), .second, .val (.long p2), .second, iv p3, iv p4, iv ln, .unset, .unset, .unset, .unset, .unset, .unset] [(.int 2147483647), (.int p4), (.int ln)]))
                    refine Goes.on (fun t k => XS.iand XJ9.here hx rfl (hb hby at_122) rfl k) ?_
                    show Goes p e below QQ (TJ9.setTop (mkF m 123 #[.val (.long p1), .second, .val (.long p2), .second, iv p3, iv p4, iv ln, .unset, .unset, .unset, .unset, .unset, .unset] [(.int (p4 &&& (2147483647 : Int32))), (.int ln)]))
                    refine Goes.on (fun t k => XS.bipush XJ9.here hx rfl (hb hby at_123) k) ?_
                    show Goes p e below QQ (TJ9.setTop (mkF m 125 #[.val (.long p1), .second, .val (.long p2), .second, iv p3, iv p4, iv ln, .unset, .unset, .unset, .unset, .unset, .unset] [(.int 11), (.int (p4 &&& (2147483647 : Int32))), (.int ln)]))
                    refine Goes.on (fun t k => XS.iload XJ9.here hx rfl (hb hby at_125) rfl k) ?_
                    show Goes p e below QQ (TJ9.setTop (mkF m 127 #[.val (.long p1), .second, .val (.long p2), .second, iv p3, iv p4, iv ln, .unset, .unset, .unset, .unset, .unset, .unset] [(.int ln), (.int 11), (.int (p4 &&& (2147483647 : Int32))), (.int ln)]))
                    refine Goes.on (fun t k => XS.isub XJ9.here hx rfl (hb hby at_127) rfl k) ?_
                    show Goes p e below QQ (TJ9.setTop (mkF m 128 #[.val (.long p1), .second, .val (.long p2), .second, iv p3, iv p4, iv ln, .unset, .unset, .unset, .unset, .unset, .unset] [(.int ((11 : Int32) - ln)), (.int (p4 &&& (2147483647 : Int32))), (.int ln)]))
                    refine Goes.on (fun t k => iremM XJ9 hx rfl (hb hby at_128) rfl hnz k) ?_
                    show Goes p e below QQ (TJ9.setTop (mkF m 129 #[.val (.long p1), .second, .val (.long p2), .second, iv p3, iv p4, iv ln, .unset, .unset, .unset, .unset, .unset, .unset] [(.int ((p4 &&& (2147483647 : Int32)) % ((11 : Int32) - ln))), (.int ln)]))
                    refine Goes.on (fun t k => XS.iadd XJ9.here hx rfl (hb hby at_129) rfl k) ?_
                    show Goes p e below QQ (TJ9.setTop (mkF m 130 #[.val (.long p1), .second, .val (.long p2), .second, iv p3, iv p4, iv ln, .unset, .unset, .unset, .unset, .unset, .unset] [(.int (ln + ((p4 &&& (2147483647 : Int32)) % ((11 : Int32) - ln))))]))
                    refine Goes.on (fun t k => XS.istore XJ9.here hx rfl (hb hby at_130) rfl (l' := #[.val (.long p1), .second, .val (.long p2), .second, iv p3, iv p4, iv ln, iv (ln + ((p4 &&& (2147483647 : Int32)) % ((11 : Int32) - ln))), .unset, .unset, .unset, .unset, .unset]) rfl k) ?_
                    show Goes p e below QQ (TJ9.setTop (mkF m 132 #[.val (.long p1), .second, .val (.long p2), .second, iv p3, iv p4, iv ln, iv (ln + ((p4 &&& (2147483647 : Int32)) % ((11 : Int32) - ln))), .unset, .unset, .unset, .unset, .unset] []))
                    obtain ⟨tn, htn, ht1, ht2, hcov⟩ := own_tot p1 ln p4 hlen
                    rw [htn]
                    show Goes p e below QQ (TJ9.setTop (mkF m 132 #[.val (.long p1), .second, .val (.long p2), .second, iv p3, iv p4, iv ln, iv (Int32.ofNat tn), .unset, .unset, .unset, .unset, .unset] []))
                    refine Goes.on (fun t k => XS.iload XJ9.here hx rfl (hb hby at_132) rfl k) ?_
                    show Goes p e below QQ (TJ9.setTop (mkF m 134 #[.val (.long p1), .second, .val (.long p2), .second, iv p3, iv p4, iv ln, iv (Int32.ofNat tn), .unset, .unset, .unset, .unset, .unset] [(.int p3)]))
                    refine Goes.on (fun t k => XS.iconst XJ9.here hx rfl (hb hby at_134) k) ?_
                    show Goes p e below QQ (TJ9.setTop (mkF m 135 #[.val (.long p1), .second, .val (.long p2), .second, iv p3, iv p4, iv ln, iv (Int32.ofNat tn), .unset, .unset, .unset, .unset, .unset] [(.int 3), (.int p3)]))
                    refine Goes.on (fun t k => XS.iand XJ9.here hx rfl (hb hby at_135) rfl k) ?_
                    show Goes p e below QQ (TJ9.setTop (mkF m 136 #[.val (.long p1), .second, .val (.long p2), .second, iv p3, iv p4, iv ln, iv (Int32.ofNat tn), .unset, .unset, .unset, .unset, .unset] [(.int (p3 &&& (3 : Int32)))]))
                    refine Goes.on (fun t k => XS.istore XJ9.here hx rfl (hb hby at_136) rfl (l' := #[.val (.long p1), .second, .val (.long p2), .second, iv p3, iv p4, iv ln, iv (Int32.ofNat tn), iv (p3 &&& (3 : Int32)), .unset, .unset, .unset, .unset]) rfl k) ?_
                    show Goes p e below QQ (TJ9.setTop (mkF m 138 #[.val (.long p1), .second, .val (.long p2), .second, iv p3, iv p4, iv ln, iv (Int32.ofNat tn), iv (p3 &&& (3 : Int32)), .unset, .unset, .unset, .unset] []))
                    have hv4 := own_four p3
                    generalize (p3 &&& (3 : Int32)) = of at *
                    show Goes p e below QQ (TJ9.setTop (mkF m 138 #[.val (.long p1), .second, .val (.long p2), .second, iv p3, iv p4, iv ln, iv (Int32.ofNat tn), iv of, .unset, .unset, .unset, .unset] []))
                    refine Goes.on (fun t k => XS.bipush XJ9.here hx rfl (hb hby at_138) k) ?_
                    show Goes p e below QQ (TJ9.setTop (mkF m 140 #[.val (.long p1), .second, .val (.long p2), .second, iv p3, iv p4, iv ln, iv (Int32.ofNat tn), iv of, .unset, .unset, .unset, .unset] [(.int 14)]))
                    obtain ⟨T10, h10, k10, X10, e10, E10, A10, st10⟩ := newP XJ9 hx hZ (hw _ (List.mem_of_getElem? (i := 1) rfl)) eJ9 (g := (mkF m 140 #[.val (.long p1), .second, .val (.long p2), .second, iv p3, iv p4, iv ln, iv (Int32.ofNat tn), iv of, .unset, .unset, .unset, .unset] [(.int 14)])) rfl (hb hby at_140) rfl (by decide) (cap := 14) (by decide) (by decide) (by decide) (by decide)
                    obtain ⟨b10, g10⟩ : ∃ z, z = h0.size := ⟨_, rfl⟩
                    rw [← g10] at A10 st10
                    have sz_b10 : h0.size ≤ b10 := Nat.le_trans K0.1 (Nat.le_of_eq g10.symm)
                    have g_b10 : n0 ≤ b10 := Nat.le_trans Z0 sz_b10
                    have O_11 := O_0.ext E10
                    have K10 := K0.ext E10
                    have X10 : Stand p l e room_1 s m #[(.long p1), (.long p2), (.int p3), (.int p4)] below meth c T10 _ 1 14 := X10
                    have V_12 : Arv Z h10 b10 k10 .byte (14 : Int32) [(.int 0), (.int 0), (.int 0), (.int 0), (.int 0), (.int 0), (.int 0), (.int 0), (.int 0), (.int 0), (.int 0), (.int 0), (.int 0), (.int 0)] (.int 0) := (Arv.new A10 (by decide)).pad (pad_rep [] (.int 0) 14)
                    refine Goes.on (fun t k => st10 t k) ?_
                    show Goes p e below QQ (T10.setTop (mkF m 142 #[.val (.long p1), .second, .val (.long p2), .second, iv p3, iv p4, iv ln, iv (Int32.ofNat tn), iv of, .unset, .unset, .unset, .unset] [(.ref b10)]))
                    refine Goes.on (fun t k => XS.dup X10.here hx rfl (hb hby at_142) rfl rfl k) ?_
                    show Goes p e below QQ (T10.setTop (mkF m 143 #[.val (.long p1), .second, .val (.long p2), .second, iv p3, iv p4, iv ln, iv (Int32.ofNat tn), iv of, .unset, .unset, .unset, .unset] [(.ref b10), (.ref b10)]))
                    refine Goes.on (fun t k => XS.iconst X10.here hx rfl (hb hby at_143) k) ?_
                    show Goes p e below QQ (T10.setTop (mkF m 144 #[.val (.long p1), .second, .val (.long p2), .second, iv p3, iv p4, iv ln, iv (Int32.ofNat tn), iv of, .unset, .unset, .unset, .unset] [(.int 0), (.ref b10), (.ref b10)]))
                    refine Goes.on (fun t k => XS.lloadN X10.here hx rfl (hb hby at_144) rfl k) ?_
                    show Goes p e below QQ (T10.setTop (mkF m 145 #[.val (.long p1), .second, .val (.long p2), .second, iv p3, iv p4, iv ln, iv (Int32.ofNat tn), iv of, .unset, .unset, .unset, .unset] [(.long p2), (.int 0), (.ref b10), (.ref b10)]))
                    refine Goes.on (fun t k => XS.iconst X10.here hx rfl (hb hby at_145) k) ?_
                    show Goes p e below QQ (T10.setTop (mkF m 146 #[.val (.long p1), .second, .val (.long p2), .second, iv p3, iv p4, iv ln, iv (Int32.ofNat tn), iv of, .unset, .unset, .unset, .unset] [(.int 0), (.long p2), (.int 0), (.ref b10), (.ref b10)]))
                    obtain ⟨_, _, ⟨T13, L13, k13, n13⟩, -, X13, ⟨Lc13, hQ13, l13, y13, z13⟩, st13⟩ := Jvm.LawKit.callS X10 hx (y := (⟨"com/example/lendgate/lendgate/circulation/DecoderCountPinLaw", "jb", "(JI)B"⟩ : MethodName)) hown (mvT hZ (hw _ (List.mem_of_getElem? (i := 2) rfl))) (mvT hZ (hw _ (List.mem_of_getElem? (i := 3) rfl))) (mvT hZ (hw _ (List.mem_of_getElem? (i := 4) rfl))) (mvT hZ (hw _ (List.mem_of_getElem? (i := 5) rfl))) (by decide) (backOf (W := 3) (rmJb l Z a0 hw [] p2 (0 : Int32) h10 n0 (Nat.le_trans Z0 K10.1) ) hZ (hw _ (List.mem_of_getElem? (i := 5) rfl)) (hw _ (List.mem_of_getElem? (i := 4) rfl)) (by decide) (by decide)) (g := (mkF m 146 #[.val (.long p1), .second, .val (.long p2), .second, iv p3, iv p4, iv ln, iv (Int32.ofNat tn), iv of, .unset, .unset, .unset, .unset] [(.int 0), (.long p2), (.int 0), (.ref b10), (.ref b10)])) rfl (by rw [hml]; rfl) (argsL := [(.long p2), (.int 0)]) (rest := [(.int 0), (.ref b10), (.ref b10)]) (lenOf pd_1 rfl) rfl (by show 2 * 0 + _ ≤ _; exact Nat.le_of_eq rfl) (hb hby at_146) (fun _ _ => ⟨rfl, e10, (by decide : 1 + 0 ≤ _), (by decide : 14 + 0 ≤ _)⟩)
                    dsimp only [Pt.U, Pt.locs, Pt.cells, Pt.slots] at X13 l13 y13 z13 st13 hQ13
                    have l13 := l13.symm; have y13 := y13.symm; have z13 := z13.symm; subst l13 y13 z13
                    have X13 : Stand p l e room_1 s m #[(.long p1), (.long p2), (.int p3), (.int p4)] below meth c T13 _ 1 14 := X13
                    obtain ⟨rfl, M13, e13⟩ := hQ13
                    have N13 := Fr.app NJ9 M13
                    refine Goes.on (fun t k => st13 _ k) ?_
                    show Goes p e below QQ (T13.setTop (mkF m 149 #[.val (.long p1), .second, .val (.long p2), .second, iv p3, iv p4, iv ln, iv (Int32.ofNat tn), iv of, .unset, .unset, .unset, .unset] [(.int (jbF p2 (0 : Int32))), (.int 0), (.ref b10), (.ref b10)]))
                    obtain ⟨cl14, Ar14, aq14, aS14, aN14, aH14, aG14⟩ := id V_12
                    have hin14 := inb_of (j := (0 : Int32)) aS14 ⟨by decide, by decide⟩
                    obtain ⟨T15, h15, X15, e15, W15, st15⟩ := stB X13 hx hZ e13 Ar14 (j := (0 : Int32)) hin14 (g := (mkF m 149 #[.val (.long p1), .second, .val (.long p2), .second, iv p3, iv p4, iv ln, iv (Int32.ofNat tn), iv of, .unset, .unset, .unset, .unset] [(.int (jbF p2 (0 : Int32))), (.int 0), (.ref b10), (.ref b10)])) rfl rfl (hb hby at_149)
                    have O_16 := O_11.wr W15 g_b10
                    have K15 := K10.wr W15 (Or.inr sz_b10)
                    have N15 := Fr.snoc X15 N13 g_b10
                    have V_17 : Arv Z h15 b10 k10 .byte (14 : Int32) [(.int (jbF p2 (0 : Int32)).toInt8.toInt32), (.int 0), (.int 0), (.int 0), (.int 0), (.int 0), (.int 0), (.int 0), (.int 0), (.int 0), (.int 0), (.int 0), (.int 0), (.int 0)] (.int 0) := Arv.set Ar14 aq14 aS14 aN14 aH14 aG14 (fits_nar_byte _) W15 0 rfl (Nat.le_of_ble_eq_true rfl)
                    refine Goes.on (fun t k => st15 t k) ?_
                    show Goes p e below QQ (T15.setTop (mkF m 150 #[.val (.long p1), .second, .val (.long p2), .second, iv p3, iv p4, iv ln, iv (Int32.ofNat tn), iv of, .unset, .unset, .unset, .unset] [(.ref b10)]))
                    refine Goes.on (fun t k => XS.dup X15.here hx rfl (hb hby at_150) rfl rfl k) ?_
                    show Goes p e below QQ (T15.setTop (mkF m 151 #[.val (.long p1), .second, .val (.long p2), .second, iv p3, iv p4, iv ln, iv (Int32.ofNat tn), iv of, .unset, .unset, .unset, .unset] [(.ref b10), (.ref b10)]))
                    refine Goes.on (fun t k => XS.iconst X15.here hx rfl (hb hby at_151) k) ?_
                    show Goes p e below QQ (T15.setTop (mkF m 152 #[.val (.long p1), .second, .val (.long p2), .second, iv p3, iv p4, iv ln, iv (Int32.ofNat tn), iv of, .unset, .unset, .unset, .unset] [(.int 1), (.ref b10), (.ref b10)]))
                    refine Goes.on (fun t k => XS.lloadN X15.here hx rfl (hb hby at_152) rfl k) ?_
                    show Goes p e below QQ (T15.setTop (mkF m 153 #[.val (.long p1), .second, .val (.long p2), .second, iv p3, iv p4, iv ln, iv (Int32.ofNat tn), iv of, .unset, .unset, .unset, .unset] [(.long p2), (.int 1), (.ref b10), (.ref b10)]))
                    refine Goes.on (fun t k => XS.iconst X15.here hx rfl (hb hby at_153) k) ?_
                    show Goes p e below QQ (T15.setTop (mkF m 154 #[.val (.long p1), .second, .val (.long p2), .second, iv p3, iv p4, iv ln, iv (Int32.ofNat tn), iv of, .unset, .unset, .unset, .unset] [(.int 1), (.long p2), (.int 1), (.ref b10), (.ref b10)]))
                    obtain ⟨_, _, ⟨T18, L18, k18, n18⟩, -, X18, ⟨Lc18, hQ18, l18, y18, z18⟩, st18⟩ := Jvm.LawKit.callS X15 hx (y := (⟨"com/example/lendgate/lendgate/circulation/DecoderCountPinLaw", "jb", "(JI)B"⟩ : MethodName)) hown (mvT hZ (hw _ (List.mem_of_getElem? (i := 2) rfl))) (mvT hZ (hw _ (List.mem_of_getElem? (i := 3) rfl))) (mvT hZ (hw _ (List.mem_of_getElem? (i := 4) rfl))) (mvT hZ (hw _ (List.mem_of_getElem? (i := 5) rfl))) (by decide) (backOf (W := 3) (rmJb l Z a0 hw [] p2 (1 : Int32) h15 n0 (Nat.le_trans Z0 K15.1) ) hZ (hw _ (List.mem_of_getElem? (i := 5) rfl)) (hw _ (List.mem_of_getElem? (i := 4) rfl)) (by decide) (by decide)) (g := (mkF m 154 #[.val (.long p1), .second, .val (.long p2), .second, iv p3, iv p4, iv ln, iv (Int32.ofNat tn), iv of, .unset, .unset, .unset, .unset] [(.int 1), (.long p2), (.int 1), (.ref b10), (.ref b10)])) rfl (by rw [hml]; rfl) (argsL := [(.long p2), (.int 1)]) (rest := [(.int 1), (.ref b10), (.ref b10)]) (lenOf pd_1 rfl) rfl (by show 2 * 0 + _ ≤ _; exact Nat.le_of_eq rfl) (hb hby at_154) (fun _ _ => ⟨rfl, e15, (by decide : 1 + 0 ≤ _), (by decide : 14 + 0 ≤ _)⟩)
                    dsimp only [Pt.U, Pt.locs, Pt.cells, Pt.slots] at X18 l18 y18 z18 st18 hQ18
                    have l18 := l18.symm; have y18 := y18.symm; have z18 := z18.symm; subst l18 y18 z18
                    have X18 : Stand p l e room_1 s m #[(.long p1), (.long p2), (.int p3), (.int p4)] below meth c T18 _ 1 14 := X18
                    obtain ⟨rfl, M18, e18⟩ := hQ18
                    have N18 := Fr.app N15 M18
                    refine Goes.on (fun t k => st18 _ k) ?_
                    show Goes p e below QQ (T18.setTop (mkF m 157 #[.val (.long p1), .second, .val (.long p2), .second, iv p3, iv p4, iv ln, iv (Int32.ofNat tn), iv of, .unset, .unset, .unset, .unset] [(.int (jbF p2 (1 : Int32))), (.int 1), (.ref b10), (.ref b10)]))
                    obtain ⟨cl19, Ar19, aq19, aS19, aN19, aH19, aG19⟩ := id V_17
                    have hin19 := inb_of (j := (1 : Int32)) aS19 ⟨by decide, by decide⟩
                    obtain ⟨T20, h20, X20, e20, W20, st20⟩ := stB X18 hx hZ e18 Ar19 (j := (1 : Int32)) hin19 (g := (mkF m 157 #[.val (.long p1), .second, .val (.long p2), .second, iv p3, iv p4, iv ln, iv (Int32.ofNat tn), iv of, .unset, .unset, .unset, .unset] [(.int (jbF p2 (1 : Int32))), (.int 1), (.ref b10), (.ref b10)])) rfl rfl (hb hby at_157)
                    have O_21 := O_16.wr W20 g_b10
                    have K20 := K15.wr W20 (Or.inr sz_b10)
                    have N20 := Fr.snoc X20 N18 g_b10
                    have V_22 : Arv Z h20 b10 k10 .byte (14 : Int32) [(.int (jbF p2 (0 : Int32)).toInt8.toInt32), (.int (jbF p2 (1 : Int32)).toInt8.toInt32), (.int 0), (.int 0), (.int 0), (.int 0), (.int 0), (.int 0), (.int 0), (.int 0), (.int 0), (.int 0), (.int 0), (.int 0)] (.int 0) := Arv.set Ar19 aq19 aS19 aN19 aH19 aG19 (fits_nar_byte _) W20 1 rfl (Nat.le_of_ble_eq_true rfl)
                    refine Goes.on (fun t k => st20 t k) ?_
                    show Goes p e below QQ (T20.setTop (mkF m 158 #[.val (.long p1), .second, .val (.long p2), .second, iv p3, iv p4, iv ln, iv (Int32.ofNat tn), iv of, .unset, .unset, .unset, .unset] [(.ref b10)]))
                    refine Goes.on (fun t k => XS.dup X20.here hx rfl (hb hby at_158) rfl rfl k) ?_
                    show Goes p e below QQ (T20.setTop (mkF m 159 #[.val (.long p1), .second, .val (.long p2), .second, iv p3, iv p4, iv ln, iv (Int32.ofNat tn), iv of, .unset, .unset, .unset, .unset] [(.ref b10), (.ref b10)]))
                    refine Goes.on (fun t k => XS.iconst X20.here hx rfl (hb hby at_159) k) ?_
                    show Goes p e below QQ (T20.setTop (mkF m 160 #[.val (.long p1), .second, .val (.long p2), .second, iv p3, iv p4, iv ln, iv (Int32.ofNat tn), iv of, .unset, .unset, .unset, .unset] [(.int 2), (.ref b10), (.ref b10)]))
                    refine Goes.on (fun t k => XS.lloadN X20.here hx rfl (hb hby at_160) rfl k) ?_
                    show Goes p e below QQ (T20.setTop (mkF m 161 #[.val (.long p1), .second, .val (.long p2), .second, iv p3, iv p4, iv ln, iv (Int32.ofNat tn), iv of, .unset, .unset, .unset, .unset] [(.long p2), (.int 2), (.ref b10), (.ref b10)]))
                    refine Goes.on (fun t k => XS.iconst X20.here hx rfl (hb hby at_161) k) ?_
                    show Goes p e below QQ (T20.setTop (mkF m 162 #[.val (.long p1), .second, .val (.long p2), .second, iv p3, iv p4, iv ln, iv (Int32.ofNat tn), iv of, .unset, .unset, .unset, .unset] [(.int 2), (.long p2), (.int 2), (.ref b10), (.ref b10)]))
                    obtain ⟨_, _, ⟨T23, L23, k23, n23⟩, -, X23, ⟨Lc23, hQ23, l23, y23, z23⟩, st23⟩ := Jvm.LawKit.callS X20 hx (y := (⟨"com/example/lendgate/lendgate/circulation/DecoderCountPinLaw", "jb", "(JI)B"⟩ : MethodName)) hown (mvT hZ (hw _ (List.mem_of_getElem? (i := 2) rfl))) (mvT hZ (hw _ (List.mem_of_getElem? (i := 3) rfl))) (mvT hZ (hw _ (List.mem_of_getElem? (i := 4) rfl))) (mvT hZ (hw _ (List.mem_of_getElem? (i := 5) rfl))) (by decide) (backOf (W := 3) (rmJb l Z a0 hw [] p2 (2 : Int32) h20 n0 (Nat.le_trans Z0 K20.1) ) hZ (hw _ (List.mem_of_getElem? (i := 5) rfl)) (hw _ (List.mem_of_getElem? (i := 4) rfl)) (by decide) (by decide)) (g := (mkF m 162 #[.val (.long p1), .second, .val (.long p2), .second, iv p3, iv p4, iv ln, iv (Int32.ofNat tn), iv of, .unset, .unset, .unset, .unset] [(.int 2), (.long p2), (.int 2), (.ref b10), (.ref b10)])) rfl (by rw [hml]; rfl) (argsL := [(.long p2), (.int 2)]) (rest := [(.int 2), (.ref b10), (.ref b10)]) (lenOf pd_1 rfl) rfl (by show 2 * 0 + _ ≤ _; exact Nat.le_of_eq rfl) (hb hby at_162) (fun _ _ => ⟨rfl, e20, (by decide : 1 + 0 ≤ _), (by decide : 14 + 0 ≤ _)⟩)
                    dsimp only [Pt.U, Pt.locs, Pt.cells, Pt.slots] at X23 l23 y23 z23 st23 hQ23
                    have l23 := l23.symm; have y23 := y23.symm; have z23 := z23.symm; subst l23 y23 z23
                    have X23 : Stand p l e room_1 s m #[(.long p1), (.long p2), (.int p3), (.int p4)] below meth c T23 _ 1 14 := X23
                    obtain ⟨rfl, M23, e23⟩ := hQ23
                    have N23 := Fr.app N20 M23
                    refine Goes.on (fun t k => st23 _ k) ?_
                    show Goes p e below QQ (T23.setTop (mkF m 165 #[.val (.long p1), .second, .val (.long p2), .second, iv p3, iv p4, iv ln, iv (Int32.ofNat tn), iv of, .unset, .unset, .unset, .unset] [(.int (jbF p2 (2 : Int32))), (.int 2), (.ref b10), (.ref b10)]))
                    obtain ⟨cl24, Ar24, aq24, aS24, aN24, aH24, aG24⟩ := id V_22
                    have hin24 := inb_of (j := (2 : Int32)) aS24 ⟨by decide, by decide⟩
                    obtain ⟨T25, h25, X25, e25, W25, st25⟩ := stB X23 hx hZ e23 Ar24 (j := (2 : Int32)) hin24 (g := (mkF m 165 #[.val (.long p1), .second, .val (.long p2), .second, iv p3, iv p4, iv ln, iv (Int32.ofNat tn), iv of, .unset, .unset, .unset, .unset] [(.int (jbF p2 (2 : Int32))), (.int 2), (.ref b10), (.ref b10)])) rfl rfl (hb hby at_165)
                    have O_26 := O_21.wr W25 g_b10
                    have K25 := K20.wr W25 (Or.inr sz_b10)
                    have N25 := Fr.snoc X25 N23 g_b10
                    have V_27 : Arv Z h25 b10 k10 .byte (14 : Int32) [(.int (jbF p2 (0 : Int32)).toInt8.toInt32), (.int (jbF p2 (1 : Int32)).toInt8.toInt32), (.int (jbF p2 (2 : Int32)).toInt8.toInt32), (.int 0), (.int 0), (.int 0), (.int 0), (.int 0), (.int 0), (.int 0), (.int 0), (.int 0), (.int 0), (.int 0)] (.int 0) := Arv.set Ar24 aq24 aS24 aN24 aH24 aG24 (fits_nar_byte _) W25 2 rfl (Nat.le_of_ble_eq_true rfl)
                    refine Goes.on (fun t k => st25 t k) ?_
                    show Goes p e below QQ (T25.setTop (mkF m 166 #[.val (.long p1), .second, .val (.long p2), .second, iv p3, iv p4, iv ln, iv (Int32.ofNat tn), iv of, .unset, .unset, .unset, .unset] [(.ref b10)]))
                    refine Goes.on (fun t k => XS.dup X25.here hx rfl (hb hby at_166) rfl rfl k) ?_
                    show Goes p e below QQ (T25.setTop (mkF m 167 #[.val (.long p1), .second, .val (.long p2), .second, iv p3, iv p4, iv ln, iv (Int32.ofNat tn), iv of, .unset, .unset, .unset, .unset] [(.ref b10), (.ref b10)]))
                    refine Goes.on (fun t k => XS.iconst X25.here hx rfl (hb hby at_167) k) ?_
                    show Goes p e below QQ (T25.setTop (mkF m 168 #[.val (.long p1), .second, .val (.long p2), .second, iv p3, iv p4, iv ln, iv (Int32.ofNat tn), iv of, .unset, .unset, .unset, .unset] [(.int 3), (.ref b10), (.ref b10)]))
                    refine Goes.on (fun t k => XS.lloadN X25.here hx rfl (hb hby at_168) rfl k) ?_
                    show Goes p e below QQ (T25.setTop (mkF m 169 #[.val (.long p1), .second, .val (.long p2), .second, iv p3, iv p4, iv ln, iv (Int32.ofNat tn), iv of, .unset, .unset, .unset, .unset] [(.long p2), (.int 3), (.ref b10), (.ref b10)]))
                    refine Goes.on (fun t k => XS.iconst X25.here hx rfl (hb hby at_169) k) ?_
                    show Goes p e below QQ (T25.setTop (mkF m 170 #[.val (.long p1), .second, .val (.long p2), .second, iv p3, iv p4, iv ln, iv (Int32.ofNat tn), iv of, .unset, .unset, .unset, .unset] [(.int 3), (.long p2), (.int 3), (.ref b10), (.ref b10)]))
                    obtain ⟨_, _, ⟨T28, L28, k28, n28⟩, -, X28, ⟨Lc28, hQ28, l28, y28, z28⟩, st28⟩ := Jvm.LawKit.callS X25 hx (y := (⟨"com/example/lendgate/lendgate/circulation/DecoderCountPinLaw", "jb", "(JI)B"⟩ : MethodName)) hown (mvT hZ (hw _ (List.mem_of_getElem? (i := 2) rfl))) (mvT hZ (hw _ (List.mem_of_getElem? (i := 3) rfl))) (mvT hZ (hw _ (List.mem_of_getElem? (i := 4) rfl))) (mvT hZ (hw _ (List.mem_of_getElem? (i := 5) rfl))) (by decide) (backOf (W := 3) (rmJb l Z a0 hw [] p2 (3 : Int32) h25 n0 (Nat.le_trans Z0 K25.1) ) hZ (hw _ (List.mem_of_getElem? (i := 5) rfl)) (hw _ (List.mem_of_getElem? (i := 4) rfl)) (by decide) (by decide)) (g := (mkF m 170 #[.val (.long p1), .second, .val (.long p2), .second, iv p3, iv p4, iv ln, iv (Int32.ofNat tn), iv of, .unset, .unset, .unset, .unset] [(.int 3), (.long p2), (.int 3), (.ref b10), (.ref b10)])) rfl (by rw [hml]; rfl) (argsL := [(.long p2), (.int 3)]) (rest := [(.int 3), (.ref b10), (.ref b10)]) (lenOf pd_1 rfl) rfl (by show 2 * 0 + _ ≤ _; exact Nat.le_of_eq rfl) (hb hby at_170) (fun _ _ => ⟨rfl, e25, (by decide : 1 + 0 ≤ _), (by decide : 14 + 0 ≤ _)⟩)
                    dsimp only [Pt.U, Pt.locs, Pt.cells, Pt.slots] at X28 l28 y28 z28 st28 hQ28
                    have l28 := l28.symm; have y28 := y28.symm; have z28 := z28.symm; subst l28 y28 z28
                    have X28 : Stand p l e room_1 s m #[(.long p1), (.long p2), (.int p3), (.int p4)] below meth c T28 _ 1 14 := X28
                    obtain ⟨rfl, M28, e28⟩ := hQ28
                    have N28 := Fr.app N25 M28
                    refine Goes.on (fun t k => st28 _ k) ?_
                    show Goes p e below QQ (T28.setTop (mkF m 173 #[.val (.long p1), .second, .val (.long p2), .second, iv p3, iv p4, iv ln, iv (Int32.ofNat tn), iv of, .unset, .unset, .unset, .unset] [(.int (jbF p2 (3 : Int32))), (.int 3), (.ref b10), (.ref b10)]))
                    obtain ⟨cl29, Ar29, aq29, aS29, aN29, aH29, aG29⟩ := id V_27
                    have hin29 := inb_of (j := (3 : Int32)) aS29 ⟨by decide, by decide⟩
                    obtain ⟨T30, h30, X30, e30, W30, st30⟩ := stB X28 hx hZ e28 Ar29 (j := (3 : Int32)) hin29 (g := (mkF m 173 #[.val (.long p1), .second, .val (.long p2), .second, iv p3, iv p4, iv ln, iv (Int32.ofNat tn), iv of, .unset, .unset, .unset, .unset] [(.int (jbF p2 (3 : Int32))), (.int 3), (.ref b10), (.ref b10)])) rfl rfl (hb hby at_173)
                    have O_31 := O_26.wr W30 g_b10
                    have K30 := K25.wr W30 (Or.inr sz_b10)
                    have N30 := Fr.snoc X30 N28 g_b10
                    have V_32 : Arv Z h30 b10 k10 .byte (14 : Int32) [(.int (jbF p2 (0 : Int32)).toInt8.toInt32), (.int (jbF p2 (1 : Int32)).toInt8.toInt32), (.int (jbF p2 (2 : Int32)).toInt8.toInt32), (.int (jbF p2 (3 : Int32)).toInt8.toInt32), (.int 0), (.int 0), (.int 0), (.int 0), (.int 0), (.int 0), (.int 0), (.int 0), (.int 0), (.int 0)] (.int 0) := Arv.set Ar29 aq29 aS29 aN29 aH29 aG29 (fits_nar_byte _) W30 3 rfl (Nat.le_of_ble_eq_true rfl)
                    refine Goes.on (fun t k => st30 t k) ?_
                    show Goes p e below QQ (T30.setTop (mkF m 174 #[.val (.long p1), .second, .val (.long p2), .second, iv p3, iv p4, iv ln, iv (Int32.ofNat tn), iv of, .unset, .unset, .unset, .unset] [(.ref b10)]))
                    refine Goes.on (fun t k => XS.dup X30.here hx rfl (hb hby at_174) rfl rfl k) ?_
                    show Goes p e below QQ (T30.setTop (mkF m 175 #[.val (.long p1), .second, .val (.long p2), .second, iv p3, iv p4, iv ln, iv (Int32.ofNat tn), iv of, .unset, .unset, .unset, .unset] [(.ref b10), (.ref b10)]))
                    refine Goes.on (fun t k => XS.iconst X30.here hx rfl (hb hby at_175) k) ?_
                    show Goes p e below QQ (T30.setTop (mkF m 176 #[.val (.long p1), .second, .val (.long p2), .second, iv p3, iv p4, iv ln, iv (Int32.ofNat tn), iv of, .unset, .unset, .unset, .unset] [(.int 4), (.ref b10), (.ref b10)]))
                    refine Goes.on (fun t k => XS.lloadN X30.here hx rfl (hb hby at_176) rfl k) ?_
                    show Goes p e below QQ (T30.setTop (mkF m 177 #[.val (.long p1), .second, .val (.long p2), .second, iv p3, iv p4, iv ln, iv (Int32.ofNat tn), iv of, .unset, .unset, .unset, .unset] [(.long p2), (.int 4), (.ref b10), (.ref b10)]))
                    refine Goes.on (fun t k => XS.iconst X30.here hx rfl (hb hby at_177) k) ?_
                    show Goes p e below QQ (T30.setTop (mkF m 178 #[.val (.long p1), .second, .val (.long p2), .second, iv p3, iv p4, iv ln, iv (Int32.ofNat tn), iv of, .unset, .unset, .unset, .unset] [(.int 4), (.long p2), (.int 4), (.ref b10), (.ref b10)]))
                    obtain ⟨_, _, ⟨T33, L33, k33, n33⟩, -, X33, ⟨Lc33, hQ33, l33, y33, z33⟩, st33⟩ := Jvm.LawKit.callS X30 hx (y := (⟨"com/example/lendgate/lendgate/circulation/DecoderCountPinLaw", "jb", "(JI)B"⟩ : MethodName)) hown (mvT hZ (hw _ (List.mem_of_getElem? (i := 2) rfl))) (mvT hZ (hw _ (List.mem_of_getElem? (i := 3) rfl))) (mvT hZ (hw _ (List.mem_of_getElem? (i := 4) rfl))) (mvT hZ (hw _ (List.mem_of_getElem? (i := 5) rfl))) (by decide) (backOf (W := 3) (rmJb l Z a0 hw [] p2 (4 : Int32) h30 n0 (Nat.le_trans Z0 K30.1) ) hZ (hw _ (List.mem_of_getElem? (i := 5) rfl)) (hw _ (List.mem_of_getElem? (i := 4) rfl)) (by decide) (by decide)) (g := (mkF m 178 #[.val (.long p1), .second, .val (.long p2), .second, iv p3, iv p4, iv ln, iv (Int32.ofNat tn), iv of, .unset, .unset, .unset, .unset] [(.int 4), (.long p2), (.int 4), (.ref b10), (.ref b10)])) rfl (by rw [hml]; rfl) (argsL := [(.long p2), (.int 4)]) (rest := [(.int 4), (.ref b10), (.ref b10)]) (lenOf pd_1 rfl) rfl (by show 2 * 0 + _ ≤ _; exact Nat.le_of_eq rfl) (hb hby at_178) (fun _ _ => ⟨rfl, e30, (by decide : 1 + 0 ≤ _), (by decide : 14 + 0 ≤ _)⟩)
                    dsimp only [Pt.U, Pt.locs, Pt.cells, Pt.slots] at X33 l33 y33 z33 st33 hQ33
                    have l33 := l33.symm; have y33 := y33.symm; have z33 := z33.symm; subst l33 y33 z33
                    have X33 : Stand p l e room_1 s m #[(.long p1), (.long p2), (.int p3), (.int p4)] below meth c T33 _ 1 14 := X33
                    obtain ⟨rfl, M33, e33⟩ := hQ33
                    have N33 := Fr.app N30 M33
                    refine Goes.on (fun t k => st33 _ k) ?_
                    show Goes p e below QQ (T33.setTop (mkF m 181 #[.val (.long p1), .second, .val (.long p2), .second, iv p3, iv p4, iv ln, iv (Int32.ofNat tn), iv of, .unset, .unset, .unset, .unset] [(.int (jbF p2 (4 : Int32))), (.int 4), (.ref b10), (.ref b10)]))
                    obtain ⟨cl34, Ar34, aq34, aS34, aN34, aH34, aG34⟩ := id V_32
                    have hin34 := inb_of (j := (4 : Int32)) aS34 ⟨by decide, by decide⟩
                    obtain ⟨T35, h35, X35, e35, W35, st35⟩ := stB X33 hx hZ e33 Ar34 (j := (4 : Int32)) hin34 (g := (mkF m 181 #[.val (.long p1), .second, .val (.long p2), .second, iv p3, iv p4, iv ln, iv (Int32.ofNat tn), iv of, .unset, .unset, .unset, .unset] [(.int (jbF p2 (4 : Int32))), (.int 4), (.ref b10), (.ref b10)])) rfl rfl (hb hby at_181)
                    have O_36 := O_31.wr W35 g_b10
                    have K35 := K30.wr W35 (Or.inr sz_b10)
                    have N35 := Fr.snoc X35 N33 g_b10
                    have V_37 : Arv Z h35 b10 k10 .byte (14 : Int32) [(.int (jbF p2 (0 : Int32)).toInt8.toInt32), (.int (jbF p2 (1 : Int32)).toInt8.toInt32), (.int (jbF p2 (2 : Int32)).toInt8.toInt32), (.int (jbF p2 (3 : Int32)).toInt8.toInt32), (.int (jbF p2 (4 : Int32)).toInt8.toInt32), (.int 0), (.int 0), (.int 0), (.int 0), (.int 0), (.int 0), (.int 0), (.int 0), (.int 0)] (.int 0) := Arv.set Ar34 aq34 aS34 aN34 aH34 aG34 (fits_nar_byte _) W35 4 rfl (Nat.le_of_ble_eq_true rfl)
                    refine Goes.on (fun t k => st35 t k) ?_
                    show Goes p e below QQ (T35.setTop (mkF m 182 #[.val (.long p1), .second, .val (.long p2), .second, iv p3, iv p4, iv ln, iv (Int32.ofNat tn), iv of, .unset, .unset, .unset, .unset] [(.ref b10)]))
                    refine Goes.on (fun t k => XS.dup X35.here hx rfl (hb hby at_182) rfl rfl k) ?_
                    show Goes p e below QQ (T35.setTop (mkF m 183 #[.val (.long p1), .second, .val (.long p2), .second, iv p3, iv p4, iv ln, iv (Int32.ofNat tn), iv of, .unset, .unset, .unset, .unset] [(.ref b10), (.ref b10)]))
                    refine Goes.on (fun t k => XS.iconst X35.here hx rfl (hb hby at_183) k) ?_
                    show Goes p e below QQ (T35.setTop (mkF m 184 #[.val (.long p1), .second, .val (.long p2), .second, iv p3, iv p4, iv ln, iv (Int32.ofNat tn), iv of, .unset, .unset, .unset, .unset] [(.int 5), (.ref b10), (.ref b10)]))
                    refine Goes.on (fun t k => XS.lloadN X35.here hx rfl (hb hby at_184) rfl k) ?_
                    show Goes p e below QQ (T35.setTop (mkF m 185 #[.val (.long p1), .second, .val (.long p2), .second, iv p3, iv p4, iv ln, iv (Int32.ofNat tn), iv of, .unset, .unset, .unset, .unset] [(.long p2), (.int 5), (.ref b10), (.ref b10)]))
                    refine Goes.on (fun t k => XS.iconst X35.here hx rfl (hb hby at_185) k) ?_
                    show Goes p e below QQ (T35.setTop (mkF m 186 #[.val (.long p1), .second, .val (.long p2), .second, iv p3, iv p4, iv ln, iv (Int32.ofNat tn), iv of, .unset, .unset, .unset, .unset] [(.int 5), (.long p2), (.int 5), (.ref b10), (.ref b10)]))
                    obtain ⟨_, _, ⟨T38, L38, k38, n38⟩, -, X38, ⟨Lc38, hQ38, l38, y38, z38⟩, st38⟩ := Jvm.LawKit.callS X35 hx (y := (⟨"com/example/lendgate/lendgate/circulation/DecoderCountPinLaw", "jb", "(JI)B"⟩ : MethodName)) hown (mvT hZ (hw _ (List.mem_of_getElem? (i := 2) rfl))) (mvT hZ (hw _ (List.mem_of_getElem? (i := 3) rfl))) (mvT hZ (hw _ (List.mem_of_getElem? (i := 4) rfl))) (mvT hZ (hw _ (List.mem_of_getElem? (i := 5) rfl))) (by decide) (backOf (W := 3) (rmJb l Z a0 hw [] p2 (5 : Int32) h35 n0 (Nat.le_trans Z0 K35.1) ) hZ (hw _ (List.mem_of_getElem? (i := 5) rfl)) (hw _ (List.mem_of_getElem? (i := 4) rfl)) (by decide) (by decide)) (g := (mkF m 186 #[.val (.long p1), .second, .val (.long p2), .second, iv p3, iv p4, iv ln, iv (Int32.ofNat tn), iv of, .unset, .unset, .unset, .unset] [(.int 5), (.long p2), (.int 5), (.ref b10), (.ref b10)])) rfl (by rw [hml]; rfl) (argsL := [(.long p2), (.int 5)]) (rest := [(.int 5), (.ref b10), (.ref b10)]) (lenOf pd_1 rfl) rfl (by show 2 * 0 + _ ≤ _; exact Nat.le_of_eq rfl) (hb hby at_186) (fun _ _ => ⟨rfl, e35, (by decide : 1 + 0 ≤ _), (by decide : 14 + 0 ≤ _)⟩)
                    dsimp only [Pt.U, Pt.locs, Pt.cells, Pt.slots] at X38 l38 y38 z38 st38 hQ38
                    have l38 := l38.symm; have y38 := y38.symm; have z38 := z38.symm; subst l38 y38 z38
                    have X38 : Stand p l e room_1 s m #[(.long p1), (.long p2), (.int p3), (.int p4)] below meth c T38 _ 1 14 := X38
                    obtain ⟨rfl, M38, e38⟩ := hQ38
                    have N38 := Fr.app N35 M38
                    refine Goes.on (fun t k => st38 _ k) ?_
                    show Goes p e below QQ (T38.setTop (mkF m 189 #[.val (.long p1), .second, .val (.long p2), .second, iv p3, iv p4, iv ln, iv (Int32.ofNat tn), iv of, .unset, .unset, .unset, .unset] [(.int (jbF p2 (5 : Int32))), (.int 5), (.ref b10), (.ref b10)]))
                    obtain ⟨cl39, Ar39, aq39, aS39, aN39, aH39, aG39⟩ := id V_37
                    have hin39 := inb_of (j := (5 : Int32)) aS39 ⟨by decide, by decide⟩
                    obtain ⟨T40, h40, X40, e40, W40, st40⟩ := stB X38 hx hZ e38 Ar39 (j := (5 : Int32)) hin39 (g := (mkF m 189 #[.val (.long p1), .second, .val (.long p2), .second, iv p3, iv p4, iv ln, iv (Int32.ofNat tn), iv of, .unset, .unset, .unset, .unset] [(.int (jbF p2 (5 : Int32))), (.int 5), (.ref b10), (.ref b10)])) rfl rfl (hb hby at_189)
                    have O_41 := O_36.wr W40 g_b10
                    have K40 := K35.wr W40 (Or.inr sz_b10)
                    have N40 := Fr.snoc X40 N38 g_b10
                    have V_42 : Arv Z h40 b10 k10 .byte (14 : Int32) [(.int (jbF p2 (0 : Int32)).toInt8.toInt32), (.int (jbF p2 (1 : Int32)).toInt8.toInt32), (.int (jbF p2 (2 : Int32)).toInt8.toInt32), (.int (jbF p2 (3 : Int32)).toInt8.toInt32), (.int (jbF p2 (4 : Int32)).toInt8.toInt32), (.int (jbF p2 (5 : Int32)).toInt8.toInt32), (.int 0), (.int 0), (.int 0), (.int 0), (.int 0), (.int 0), (.int 0), (.int 0)] (.int 0) := Arv.set Ar39 aq39 aS39 aN39 aH39 aG39 (fits_nar_byte _) W40 5 rfl (Nat.le_of_ble_eq_true rfl)
                    refine Goes.on (fun t k => st40 t k) ?_
                    show Goes p e below QQ (T40.setTop (mkF m 190 #[.val (.long p1), .second, .val (.long p2), .second, iv p3, iv p4, iv ln, iv (Int32.ofNat tn), iv of, .unset, .unset, .unset, .unset] [(.ref b10)]))
                    refine Goes.on (fun t k => XS.dup X40.here hx rfl (hb hby at_190) rfl rfl k) ?_
                    show Goes p e below QQ (T40.setTop (mkF m 191 #[.val (.long p1), .second, .val (.long p2), .second, iv p3, iv p4, iv ln, iv (Int32.ofNat tn), iv of, .unset, .unset, .unset, .unset] [(.ref b10), (.ref b10)]))
                    refine Goes.on (fun t k => XS.bipush X40.here hx rfl (hb hby at_191) k) ?_
                    show Goes p e below QQ (T40.setTop (mkF m 193 #[.val (.long p1), .second, .val (.long p2), .second, iv p3, iv p4, iv ln, iv (Int32.ofNat tn), iv of, .unset, .unset, .unset, .unset] [(.int 6), (.ref b10), (.ref b10)]))
                    refine Goes.on (fun t k => XS.lloadN X40.here hx rfl (hb hby at_193) rfl k) ?_
                    show Goes p e below QQ (T40.setTop (mkF m 194 #[.val (.long p1), .second, .val (.long p2), .second, iv p3, iv p4, iv ln, iv (Int32.ofNat tn), iv of, .unset, .unset, .unset, .unset] [(.long p2), (.int 6), (.ref b10), (.ref b10)]))
                    refine Goes.on (fun t k => XS.bipush X40.here hx rfl (hb hby at_194) k) ?_
                    show Goes p e below QQ (T40.setTop (mkF m 196 #[.val (.long p1), .second, .val (.long p2), .second, iv p3, iv p4, iv ln, iv (Int32.ofNat tn), iv of, .unset, .unset, .unset, .unset] [(.int 6), (.long p2), (.int 6), (.ref b10), (.ref b10)]))
                    obtain ⟨_, _, ⟨T43, L43, k43, n43⟩, -, X43, ⟨Lc43, hQ43, l43, y43, z43⟩, st43⟩ := Jvm.LawKit.callS X40 hx (y := (⟨"com/example/lendgate/lendgate/circulation/DecoderCountPinLaw", "jb", "(JI)B"⟩ : MethodName)) hown (mvT hZ (hw _ (List.mem_of_getElem? (i := 2) rfl))) (mvT hZ (hw _ (List.mem_of_getElem? (i := 3) rfl))) (mvT hZ (hw _ (List.mem_of_getElem? (i := 4) rfl))) (mvT hZ (hw _ (List.mem_of_getElem? (i := 5) rfl))) (by decide) (backOf (W := 3) (rmJb l Z a0 hw [] p2 (6 : Int32) h40 n0 (Nat.le_trans Z0 K40.1) ) hZ (hw _ (List.mem_of_getElem? (i := 5) rfl)) (hw _ (List.mem_of_getElem? (i := 4) rfl)) (by decide) (by decide)) (g := (mkF m 196 #[.val (.long p1), .second, .val (.long p2), .second, iv p3, iv p4, iv ln, iv (Int32.ofNat tn), iv of, .unset, .unset, .unset, .unset] [(.int 6), (.long p2), (.int 6), (.ref b10), (.ref b10)])) rfl (by rw [hml]; rfl) (argsL := [(.long p2), (.int 6)]) (rest := [(.int 6), (.ref b10), (.ref b10)]) (lenOf pd_1 rfl) rfl (by show 2 * 0 + _ ≤ _; exact Nat.le_of_eq rfl) (hb hby at_196) (fun _ _ => ⟨rfl, e40, (by decide : 1 + 0 ≤ _), (by decide : 14 + 0 ≤ _)⟩)
                    dsimp only [Pt.U, Pt.locs, Pt.cells, Pt.slots] at X43 l43 y43 z43 st43 hQ43
                    have l43 := l43.symm; have y43 := y43.symm; have z43 := z43.symm; subst l43 y43 z43
                    have X43 : Stand p l e room_1 s m #[(.long p1), (.long p2), (.int p3), (.int p4)] below meth c T43 _ 1 14 := X43
                    obtain ⟨rfl, M43, e43⟩ := hQ43
                    have N43 := Fr.app N40 M43
                    refine Goes.on (fun t k => st43 _ k) ?_
                    show Goes p e below QQ (T43.setTop (mkF m 199 #[.val (.long p1), .second, .val (.long p2), .second, iv p3, iv p4, iv ln, iv (Int32.ofNat tn), iv of, .unset, .unset, .unset, .unset] [(.int (jbF p2 (6 : Int32))), (.int 6), (.ref b10), (.ref b10)]))
                    obtain ⟨cl44, Ar44, aq44, aS44, aN44, aH44, aG44⟩ := id V_42
                    have hin44 := inb_of (j := (6 : Int32)) aS44 ⟨by decide, by decide⟩
                    obtain ⟨T45, h45, X45, e45, W45, st45⟩ := stB X43 hx hZ e43 Ar44 (j := (6 : Int32)) hin44 (g := (mkF m 199 #[.val (.long p1), .second, .val (.long p2), .second, iv p3, iv p4, iv ln, iv (Int32.ofNat tn), iv of, .unset, .unset, .unset, .unset] [(.int (jbF p2 (6 : Int32))), (.int 6), (.ref b10), (.ref b10)])) rfl rfl (hb hby at_199)
                    have O_46 := O_41.wr W45 g_b10
                    have K45 := K40.wr W45 (Or.inr sz_b10)
                    have N45 := Fr.snoc X45 N43 g_b10
                    have V_47 : Arv Z h45 b10 k10 .byte (14 : Int32) [(.int (jbF p2 (0 : Int32)).toInt8.toInt32), (.int (jbF p2 (1 : Int32)).toInt8.toInt32), (.int (jbF p2 (2 : Int32)).toInt8.toInt32), (.int (jbF p2 (3 : Int32)).toInt8.toInt32), (.int (jbF p2 (4 : Int32)).toInt8.toInt32), (.int (jbF p2 (5 : Int32)).toInt8.toInt32), (.int (jbF p2 (6 : Int32)).toInt8.toInt32), (.int 0), (.int 0), (.int 0), (.int 0), (.int 0), (.int 0), (.int 0)] (.int 0) := Arv.set Ar44 aq44 aS44 aN44 aH44 aG44 (fits_nar_byte _) W45 6 rfl (Nat.le_of_ble_eq_true rfl)
                    refine Goes.on (fun t k => st45 t k) ?_
                    show Goes p e below QQ (T45.setTop (mkF m 200 #[.val (.long p1), .second, .val (.long p2), .second, iv p3, iv p4, iv ln, iv (Int32.ofNat tn), iv of, .unset, .unset, .unset, .unset] [(.ref b10)]))
                    refine Goes.on (fun t k => XS.dup X45.here hx rfl (hb hby at_200) rfl rfl k) ?_
                    show Goes p e below QQ (T45.setTop (mkF m 201 #[.val (.long p1), .second, .val (.long p2), .second, iv p3, iv p4, iv ln, iv (Int32.ofNat tn), iv of, .unset, .unset, .unset, .unset] [(.ref b10), (.ref b10)]))
                    refine Goes.on (fun t k => XS.bipush X45.here hx rfl (hb hby at_201) k) ?_
                    show Goes p e below QQ (T45.setTop (mkF m 203 #[.val (.long p1), .second, .val (.long p2), .second, iv p3, iv p4, iv ln, iv (Int32.ofNat tn), iv of, .unset, .unset, .unset, .unset] [(.int 7), (.ref b10), (.ref b10)]))
                    refine Goes.on (fun t k => XS.lloadN X45.here hx rfl (hb hby at_203) rfl k) ?_
                    show Goes p e below QQ (T45.setTop (mkF m 204 #[.val (.long p1), .second, .val (.long p2), .second, iv p3, iv p4, iv ln, iv (Int32.ofNat tn), iv of, .unset, .unset, .unset, .unset] [(.long p2), (.int 7), (.ref b10), (.ref b10)]))
                    refine Goes.on (fun t k => XS.bipush X45.here hx rfl (hb hby at_204) k) ?_
                    show Goes p e below QQ (T45.setTop (mkF m 206 #[.val (.long p1), .second, .val (.long p2), .second, iv p3, iv p4, iv ln, iv (Int32.ofNat tn), iv of, .unset, .unset, .unset, .unset] [(.int 7), (.long p2), (.int 7), (.ref b10), (.ref b10)]))
                    obtain ⟨_, _, ⟨T48, L48, k48, n48⟩, -, X48, ⟨Lc48, hQ48, l48, y48, z48⟩, st48⟩ := Jvm.LawKit.callS X45 hx (y := (⟨"com/example/lendgate/lendgate/circulation/DecoderCountPinLaw", "jb", "(JI)B"⟩ : MethodName)) hown (mvT hZ (hw _ (List.mem_of_getElem? (i := 2) rfl))) (mvT hZ (hw _ (List.mem_of_getElem? (i := 3) rfl))) (mvT hZ (hw _ (List.mem_of_getElem? (i := 4) rfl))) (mvT hZ (hw _ (List.mem_of_getElem? (i := 5) rfl))) (by decide) (backOf (W := 3) (rmJb l Z a0 hw [] p2 (7 : Int32) h45 n0 (Nat.le_trans Z0 K45.1) ) hZ (hw _ (List.mem_of_getElem? (i := 5) rfl)) (hw _ (List.mem_of_getElem? (i := 4) rfl)) (by decide) (by decide)) (g := (mkF m 206 #[.val (.long p1), .second, .val (.long p2), .second, iv p3, iv p4, iv ln, iv (Int32.ofNat tn), iv of, .unset, .unset, .unset, .unset] [(.int 7), (.long p2), (.int 7), (.ref b10), (.ref b10)])) rfl (by rw [hml]; rfl) (argsL := [(.long p2), (.int 7)]) (rest := [(.int 7), (.ref b10), (.ref b10)]) (lenOf pd_1 rfl) rfl (by show 2 * 0 + _ ≤ _; exact Nat.le_of_eq rfl) (hb hby at_206) (fun _ _ => ⟨rfl, e45, (by decide : 1 + 0 ≤ _), (by decide : 14 + 0 ≤ _)⟩)
                    dsimp only [Pt.U, Pt.locs, Pt.cells, Pt.slots] at X48 l48 y48 z48 st48 hQ48
                    have l48 := l48.symm; have y48 := y48.symm; have z48 := z48.symm; subst l48 y48 z48
                    have X48 : Stand p l e room_1 s m #[(.long p1), (.long p2), (.int p3), (.int p4)] below meth c T48 _ 1 14 := X48
                    obtain ⟨rfl, M48, e48⟩ := hQ48
                    have N48 := Fr.app N45 M48
                    refine Goes.on (fun t k => st48 _ k) ?_
                    show Goes p e below QQ (T48.setTop (mkF m 209 #[.val (.long p1), .second, .val (.long p2), .second, iv p3, iv p4, iv ln, iv (Int32.ofNat tn), iv of, .unset, .unset, .unset, .unset] [(.int (jbF p2 (7 : Int32))), (.int 7), (.ref b10), (.ref b10)]))
                    obtain ⟨cl49, Ar49, aq49, aS49, aN49, aH49, aG49⟩ := id V_47
                    have hin49 := inb_of (j := (7 : Int32)) aS49 ⟨by decide, by decide⟩
                    obtain ⟨T50, h50, X50, e50, W50, st50⟩ := stB X48 hx hZ e48 Ar49 (j := (7 : Int32)) hin49 (g := (mkF m 209 #[.val (.long p1), .second, .val (.long p2), .second, iv p3, iv p4, iv ln, iv (Int32.ofNat tn), iv of, .unset, .unset, .unset, .unset] [(.int (jbF p2 (7 : Int32))), (.int 7), (.ref b10), (.ref b10)])) rfl rfl (hb hby at_209)
                    have O_51 := O_46.wr W50 g_b10
                    have K50 := K45.wr W50 (Or.inr sz_b10)
                    have N50 := Fr.snoc X50 N48 g_b10
                    have V_52 : Arv Z h50 b10 k10 .byte (14 : Int32) [(.int (jbF p2 (0 : Int32)).toInt8.toInt32), (.int (jbF p2 (1 : Int32)).toInt8.toInt32), (.int (jbF p2 (2 : Int32)).toInt8.toInt32), (.int (jbF p2 (3 : Int32)).toInt8.toInt32), (.int (jbF p2 (4 : Int32)).toInt8.toInt32), (.int (jbF p2 (5 : Int32)).toInt8.toInt32), (.int (jbF p2 (6 : Int32)).toInt8.toInt32), (.int (jbF p2 (7 : Int32)).toInt8.toInt32), (.int 0), (.int 0), (.int 0), (.int 0), (.int 0), (.int 0)] (.int 0) := Arv.set Ar49 aq49 aS49 aN49 aH49 aG49 (fits_nar_byte _) W50 7 rfl (Nat.le_of_ble_eq_true rfl)
                    refine Goes.on (fun t k => st50 t k) ?_
                    show Goes p e below QQ (T50.setTop (mkF m 210 #[.val (.long p1), .second, .val (.long p2), .second, iv p3, iv p4, iv ln, iv (Int32.ofNat tn), iv of, .unset, .unset, .unset, .unset] [(.ref b10)]))
                    refine Goes.on (fun t k => XS.dup X50.here hx rfl (hb hby at_210) rfl rfl k) ?_
                    show Goes p e below QQ (T50.setTop (mkF m 211 #[.val (.long p1), .second, .val (.long p2), .second, iv p3, iv p4, iv ln, iv (Int32.ofNat tn), iv of, .unset, .unset, .unset, .unset] [(.ref b10), (.ref b10)]))
                    refine Goes.on (fun t k => XS.bipush X50.here hx rfl (hb hby at_211) k) ?_
                    show Goes p e below QQ (T50.setTop (mkF m 213 #[.val (.long p1), .second, .val (.long p2), .second, iv p3, iv p4, iv ln, iv (Int32.ofNat tn), iv of, .unset, .unset, .unset, .unset] [(.int 8), (.ref b10), (.ref b10)]))
                    refine Goes.on (fun t k => XS.lloadN X50.here hx rfl (hb hby at_213) rfl k) ?_
                    show Goes p e below QQ (T50.setTop (mkF m 214 #[.val (.long p1), .second, .val (.long p2), .second, iv p3, iv p4, iv ln, iv (Int32.ofNat tn), iv of, .unset, .unset, .unset, .unset] [(.long p2), (.int 8), (.ref b10), (.ref b10)]))
                    refine Goes.on (fun t k => XS.bipush X50.here hx rfl (hb hby at_214) k) ?_
                    show Goes p e below QQ (T50.setTop (mkF m 216 #[.val (.long p1), .second, .val (.long p2), .second, iv p3, iv p4, iv ln, iv (Int32.ofNat tn), iv of, .unset, .unset, .unset, .unset] [(.int 8), (.long p2), (.int 8), (.ref b10), (.ref b10)]))
                    obtain ⟨_, _, ⟨T53, L53, k53, n53⟩, -, X53, ⟨Lc53, hQ53, l53, y53, z53⟩, st53⟩ := Jvm.LawKit.callS X50 hx (y := (⟨"com/example/lendgate/lendgate/circulation/DecoderCountPinLaw", "jb", "(JI)B"⟩ : MethodName)) hown (mvT hZ (hw _ (List.mem_of_getElem? (i := 2) rfl))) (mvT hZ (hw _ (List.mem_of_getElem? (i := 3) rfl))) (mvT hZ (hw _ (List.mem_of_getElem? (i := 4) rfl))) (mvT hZ (hw _ (List.mem_of_getElem? (i := 5) rfl))) (by decide) (backOf (W := 3) (rmJb l Z a0 hw [] p2 (8 : Int32) h50 n0 (Nat.le_trans Z0 K50.1) ) hZ (hw _ (List.mem_of_getElem? (i := 5) rfl)) (hw _ (List.mem_of_getElem? (i := 4) rfl)) (by decide) (by decide)) (g := (mkF m 216 #[.val (.long p1), .second, .val (.long p2), .second, iv p3, iv p4, iv ln, iv (Int32.ofNat tn), iv of, .unset, .unset, .unset, .unset] [(.int 8), (.long p2), (.int 8), (.ref b10), (.ref b10)])) rfl (by rw [hml]; rfl) (argsL := [(.long p2), (.int 8)]) (rest := [(.int 8), (.ref b10), (.ref b10)]) (lenOf pd_1 rfl) rfl (by show 2 * 0 + _ ≤ _; exact Nat.le_of_eq rfl) (hb hby at_216) (fun _ _ => ⟨rfl, e50, (by decide : 1 + 0 ≤ _), (by decide : 14 + 0 ≤ _)⟩)
                    dsimp only [Pt.U, Pt.locs, Pt.cells, Pt.slots] at X53 l53 y53 z53 st53 hQ53
                    have l53 := l53.symm; have y53 := y53.symm; have z53 := z53.symm; subst l53 y53 z53
                    have X53 : Stand p l e room_1 s m #[(.long p1), (.long p2), (.int p3), (.int p4)] below meth c T53 _ 1 14 := X53
                    obtain ⟨rfl, M53, e53⟩ := hQ53
                    have N53 := Fr.app N50 M53
                    refine Goes.on (fun t k => st53 _ k) ?_
                    show Goes p e below QQ (T53.setTop (mkF m 219 #[.val (.long p1), .second, .val (.long p2), .second, iv p3, iv p4, iv ln, iv (Int32.ofNat tn), iv of, .unset, .unset, .unset, .unset] [(.int (jbF p2 (8 : Int32))), (.int 8), (.ref b10), (.ref b10)]))
                    obtain ⟨cl54, Ar54, aq54, aS54, aN54, aH54, aG54⟩ := id V_52
                    have hin54 := inb_of (j := (8 : Int32)) aS54 ⟨by decide, by decide⟩
                    obtain ⟨T55, h55, X55, e55, W55, st55⟩ := stB X53 hx hZ e53 Ar54 (j := (8 : Int32)) hin54 (g := (mkF m 219 #[.val (.long p1), .second, .val (.long p2), .second, iv p3, iv p4, iv ln, iv (Int32.ofNat tn), iv of, .unset, .unset, .unset, .unset] [(.int (jbF p2 (8 : Int32))), (.int 8), (.ref b10), (.ref b10)])) rfl rfl (hb hby at_219)
                    have O_56 := O_51.wr W55 g_b10
                    have K55 := K50.wr W55 (Or.inr sz_b10)
                    have N55 := Fr.snoc X55 N53 g_b10
                    have V_57 : Arv Z h55 b10 k10 .byte (14 : Int32) [(.int (jbF p2 (0 : Int32)).toInt8.toInt32), (.int (jbF p2 (1 : Int32)).toInt8.toInt32), (.int (jbF p2 (2 : Int32)).toInt8.toInt32), (.int (jbF p2 (3 : Int32)).toInt8.toInt32), (.int (jbF p2 (4 : Int32)).toInt8.toInt32), (.int (jbF p2 (5 : Int32)).toInt8.toInt32), (.int (jbF p2 (6 : Int32)).toInt8.toInt32), (.int (jbF p2 (7 : Int32)).toInt8.toInt32), (.int (jbF p2 (8 : Int32)).toInt8.toInt32), (.int 0), (.int 0), (.int 0), (.int 0), (.int 0)] (.int 0) := Arv.set Ar54 aq54 aS54 aN54 aH54 aG54 (fits_nar_byte _) W55 8 rfl (Nat.le_of_ble_eq_true rfl)
                    refine Goes.on (fun t k => st55 t k) ?_
                    show Goes p e below QQ (T55.setTop (mkF m 220 #[.val (.long p1), .second, .val (.long p2), .second, iv p3, iv p4, iv ln, iv (Int32.ofNat tn), iv of, .unset, .unset, .unset, .unset] [(.ref b10)]))
                    refine Goes.on (fun t k => XS.dup X55.here hx rfl (hb hby at_220) rfl rfl k) ?_
                    show Goes p e below QQ (T55.setTop (mkF m 221 #[.val (.long p1), .second, .val (.long p2), .second, iv p3, iv p4, iv ln, iv (Int32.ofNat tn), iv of, .unset, .unset, .unset, .unset] [(.ref b10), (.ref b10)]))
                    refine Goes.on (fun t k => XS.bipush X55.here hx rfl (hb hby at_221) k) ?_
                    show Goes p e below QQ (T55.setTop (mkF m 223 #[.val (.long p1), .second, .val (.long p2), .second, iv p3, iv p4, iv ln, iv (Int32.ofNat tn), iv of, .unset, .unset, .unset, .unset] [(.int 9), (.ref b10), (.ref b10)]))
                    refine Goes.on (fun t k => XS.lloadN X55.here hx rfl (hb hby at_223) rfl k) ?_
                    show Goes p e below QQ (T55.setTop (mkF m 224 #[.val (.long p1), .second, .val (.long p2), .second, iv p3, iv p4, iv ln, iv (Int32.ofNat tn), iv of, .unset, .unset, .unset, .unset] [(.long p2), (.int 9), (.ref b10), (.ref b10)]))
                    refine Goes.on (fun t k => XS.bipush X55.here hx rfl (hb hby at_224) k) ?_
                    show Goes p e below QQ (T55.setTop (mkF m 226 #[.val (.long p1), .second, .val (.long p2), .second, iv p3, iv p4, iv ln, iv (Int32.ofNat tn), iv of, .unset, .unset, .unset, .unset] [(.int 9), (.long p2), (.int 9), (.ref b10), (.ref b10)]))
                    obtain ⟨_, _, ⟨T58, L58, k58, n58⟩, -, X58, ⟨Lc58, hQ58, l58, y58, z58⟩, st58⟩ := Jvm.LawKit.callS X55 hx (y := (⟨"com/example/lendgate/lendgate/circulation/DecoderCountPinLaw", "jb", "(JI)B"⟩ : MethodName)) hown (mvT hZ (hw _ (List.mem_of_getElem? (i := 2) rfl))) (mvT hZ (hw _ (List.mem_of_getElem? (i := 3) rfl))) (mvT hZ (hw _ (List.mem_of_getElem? (i := 4) rfl))) (mvT hZ (hw _ (List.mem_of_getElem? (i := 5) rfl))) (by decide) (backOf (W := 3) (rmJb l Z a0 hw [] p2 (9 : Int32) h55 n0 (Nat.le_trans Z0 K55.1) ) hZ (hw _ (List.mem_of_getElem? (i := 5) rfl)) (hw _ (List.mem_of_getElem? (i := 4) rfl)) (by decide) (by decide)) (g := (mkF m 226 #[.val (.long p1), .second, .val (.long p2), .second, iv p3, iv p4, iv ln, iv (Int32.ofNat tn), iv of, .unset, .unset, .unset, .unset] [(.int 9), (.long p2), (.int 9), (.ref b10), (.ref b10)])) rfl (by rw [hml]; rfl) (argsL := [(.long p2), (.int 9)]) (rest := [(.int 9), (.ref b10), (.ref b10)]) (lenOf pd_1 rfl) rfl (by show 2 * 0 + _ ≤ _; exact Nat.le_of_eq rfl) (hb hby at_226) (fun _ _ => ⟨rfl, e55, (by decide : 1 + 0 ≤ _), (by decide : 14 + 0 ≤ _)⟩)
                    dsimp only [Pt.U, Pt.locs, Pt.cells, Pt.slots] at X58 l58 y58 z58 st58 hQ58
                    have l58 := l58.symm; have y58 := y58.symm; have z58 := z58.symm; subst l58 y58 z58
                    have X58 : Stand p l e room_1 s m #[(.long p1), (.long p2), (.int p3), (.int p4)] below meth c T58 _ 1 14 := X58
                    obtain ⟨rfl, M58, e58⟩ := hQ58
                    have N58 := Fr.app N55 M58
                    refine Goes.on (fun t k => st58 _ k) ?_
                    show Goes p e below QQ (T58.setTop (mkF m 229 #[.val (.long p1), .second, .val (.long p2), .second, iv p3, iv p4, iv ln, iv (Int32.ofNat tn), iv of, .unset, .unset, .unset, .unset] [(.int (jbF p2 (9 : Int32))), (.int 9), (.ref b10), (.ref b10)]))
                    obtain ⟨cl59, Ar59, aq59, aS59, aN59, aH59, aG59⟩ := id V_57
                    have hin59 := inb_of (j := (9 : Int32)) aS59 ⟨by decide, by decide⟩
                    obtain ⟨T60, h60, X60, e60, W60, st60⟩ := stB X58 hx hZ e58 Ar59 (j := (9 : Int32)) hin59 (g := (mkF m 229 #[.val (.long p1), .second, .val (.long p2), .second, iv p3, iv p4, iv ln, iv (Int32.ofNat tn), iv of, .unset, .unset, .unset, .unset] [(.int (jbF p2 (9 : Int32))), (.int 9), (.ref b10), (.ref b10)])) rfl rfl (hb hby at_229)
                    have O_61 := O_56.wr W60 g_b10
                    have K60 := K55.wr W60 (Or.inr sz_b10)
                    have N60 := Fr.snoc X60 N58 g_b10
                    have V_62 : Arv Z h60 b10 k10 .byte (14 : Int32) [(.int (jbF p2 (0 : Int32)).toInt8.toInt32), (.int (jbF p2 (1 : Int32)).toInt8.toInt32), (.int (jbF p2 (2 : Int32)).toInt8.toInt32), (.int (jbF p2 (3 : Int32)).toInt8.toInt32), (.int (jbF p2 (4 : Int32)).toInt8.toInt32), (.int (jbF p2 (5 : Int32)).toInt8.toInt32), (.int (jbF p2 (6 : Int32)).toInt8.toInt32), (.int (jbF p2 (7 : Int32)).toInt8.toInt32), (.int (jbF p2 (8 : Int32)).toInt8.toInt32), (.int (jbF p2 (9 : Int32)).toInt8.toInt32), (.int 0), (.int 0), (.int 0), (.int 0)] (.int 0) := Arv.set Ar59 aq59 aS59 aN59 aH59 aG59 (fits_nar_byte _) W60 9 rfl (Nat.le_of_ble_eq_true rfl)
                    refine Goes.on (fun t k => st60 t k) ?_
                    show Goes p e below QQ (T60.setTop (mkF m 230 #[.val (.long p1), .second, .val (.long p2), .second, iv p3, iv p4, iv ln, iv (Int32.ofNat tn), iv of, .unset, .unset, .unset, .unset] [(.ref b10)]))
                    refine Goes.on (fun t k => XS.dup X60.here hx rfl (hb hby at_230) rfl rfl k) ?_
                    show Goes p e below QQ (T60.setTop (mkF m 231 #[.val (.long p1), .second, .val (.long p2), .second, iv p3, iv p4, iv ln, iv (Int32.ofNat tn), iv of, .unset, .unset, .unset, .unset] [(.ref b10), (.ref b10)]))
                    refine Goes.on (fun t k => XS.bipush X60.here hx rfl (hb hby at_231) k) ?_
                    show Goes p e below QQ (T60.setTop (mkF m 233 #[.val (.long p1), .second, .val (.long p2), .second, iv p3, iv p4, iv ln, iv (Int32.ofNat tn), iv of, .unset, .unset, .unset, .unset] [(.int 10), (.ref b10), (.ref b10)]))
                    refine Goes.on (fun t k => XS.lloadN X60.here hx rfl (hb hby at_233) rfl k) ?_
                    show Goes p e below QQ (T60.setTop (mkF m 234 #[.val (.long p1), .second, .val (.long p2), .second, iv p3, iv p4, iv ln, iv (Int32.ofNat tn), iv of, .unset, .unset, .unset, .unset] [(.long p2), (.int 10), (.ref b10), (.ref b10)]))
                    refine Goes.on (fun t k => XS.bipush X60.here hx rfl (hb hby at_234) k) ?_
                    show Goes p e below QQ (T60.setTop (mkF m 236 #[.val (.long p1), .second, .val (.long p2), .second, iv p3, iv p4, iv ln, iv (Int32.ofNat tn), iv of, .unset, .unset, .unset, .unset] [(.int 10), (.long p2), (.int 10), (.ref b10), (.ref b10)]))
                    obtain ⟨_, _, ⟨T63, L63, k63, n63⟩, -, X63, ⟨Lc63, hQ63, l63, y63, z63⟩, st63⟩ := Jvm.LawKit.callS X60 hx (y := (⟨"com/example/lendgate/lendgate/circulation/DecoderCountPinLaw", "jb", "(JI)B"⟩ : MethodName)) hown (mvT hZ (hw _ (List.mem_of_getElem? (i := 2) rfl))) (mvT hZ (hw _ (List.mem_of_getElem? (i := 3) rfl))) (mvT hZ (hw _ (List.mem_of_getElem? (i := 4) rfl))) (mvT hZ (hw _ (List.mem_of_getElem? (i := 5) rfl))) (by decide) (backOf (W := 3) (rmJb l Z a0 hw [] p2 (10 : Int32) h60 n0 (Nat.le_trans Z0 K60.1) ) hZ (hw _ (List.mem_of_getElem? (i := 5) rfl)) (hw _ (List.mem_of_getElem? (i := 4) rfl)) (by decide) (by decide)) (g := (mkF m 236 #[.val (.long p1), .second, .val (.long p2), .second, iv p3, iv p4, iv ln, iv (Int32.ofNat tn), iv of, .unset, .unset, .unset, .unset] [(.int 10), (.long p2), (.int 10), (.ref b10), (.ref b10)])) rfl (by rw [hml]; rfl) (argsL := [(.long p2), (.int 10)]) (rest := [(.int 10), (.ref b10), (.ref b10)]) (lenOf pd_1 rfl) rfl (by show 2 * 0 + _ ≤ _; exact Nat.le_of_eq rfl) (hb hby at_236) (fun _ _ => ⟨rfl, e60, (by decide : 1 + 0 ≤ _), (by decide : 14 + 0 ≤ _)⟩)
                    dsimp only [Pt.U, Pt.locs, Pt.cells, Pt.slots] at X63 l63 y63 z63 st63 hQ63
                    have l63 := l63.symm; have y63 := y63.symm; have z63 := z63.symm; subst l63 y63 z63
                    have X63 : Stand p l e room_1 s m #[(.long p1), (.long p2), (.int p3), (.int p4)] below meth c T63 _ 1 14 := X63
                    obtain ⟨rfl, M63, e63⟩ := hQ63
                    have N63 := Fr.app N60 M63
                    refine Goes.on (fun t k => st63 _ k) ?_
                    show Goes p e below QQ (T63.setTop (mkF m 239 #[.val (.long p1), .second, .val (.long p2), .second, iv p3, iv p4, iv ln, iv (Int32.ofNat tn), iv of, .unset, .unset, .unset, .unset] [(.int (jbF p2 (10 : Int32))), (.int 10), (.ref b10), (.ref b10)]))
                    obtain ⟨cl64, Ar64, aq64, aS64, aN64, aH64, aG64⟩ := id V_62
                    have hin64 := inb_of (j := (10 : Int32)) aS64 ⟨by decide, by decide⟩
                    obtain ⟨T65, h65, X65, e65, W65, st65⟩ := stB X63 hx hZ e63 Ar64 (j := (10 : Int32)) hin64 (g := (mkF m 239 #[.val (.long p1), .second, .val (.long p2), .second, iv p3, iv p4, iv ln, iv (Int32.ofNat tn), iv of, .unset, .unset, .unset, .unset] [(.int (jbF p2 (10 : Int32))), (.int 10), (.ref b10), (.ref b10)])) rfl rfl (hb hby at_239)
                    have O_66 := O_61.wr W65 g_b10
                    have K65 := K60.wr W65 (Or.inr sz_b10)
                    have N65 := Fr.snoc X65 N63 g_b10
                    have V_67 : Arv Z h65 b10 k10 .byte (14 : Int32) [(.int (jbF p2 (0 : Int32)).toInt8.toInt32), (.int (jbF p2 (1 : Int32)).toInt8.toInt32), (.int (jbF p2 (2 : Int32)).toInt8.toInt32), (.int (jbF p2 (3 : Int32)).toInt8.toInt32), (.int (jbF p2 (4 : Int32)).toInt8.toInt32), (.int (jbF p2 (5 : Int32)).toInt8.toInt32), (.int (jbF p2 (6 : Int32)).toInt8.toInt32), (.int (jbF p2 (7 : Int32)).toInt8.toInt32), (.int (jbF p2 (8 : Int32)).toInt8.toInt32), (.int (jbF p2 (9 : Int32)).toInt8.toInt32), (.int (jbF p2 (10 : Int32)).toInt8.toInt32), (.int 0), (.int 0), (.int 0)] (.int 0) := Arv.set Ar64 aq64 aS64 aN64 aH64 aG64 (fits_nar_byte _) W65 10 rfl (Nat.le_of_ble_eq_true rfl)
                    refine Goes.on (fun t k => st65 t k) ?_
                    show Goes p e below QQ (T65.setTop (mkF m 240 #[.val (.long p1), .second, .val (.long p2), .second, iv p3, iv p4, iv ln, iv (Int32.ofNat tn), iv of, .unset, .unset, .unset, .unset] [(.ref b10)]))
                    refine Goes.on (fun t k => XS.dup X65.here hx rfl (hb hby at_240) rfl rfl k) ?_
                    show Goes p e below QQ (T65.setTop (mkF m 241 #[.val (.long p1), .second, .val (.long p2), .second, iv p3, iv p4, iv ln, iv (Int32.ofNat tn), iv of, .unset, .unset, .unset, .unset] [(.ref b10), (.ref b10)]))
                    refine Goes.on (fun t k => XS.bipush X65.here hx rfl (hb hby at_241) k) ?_
                    show Goes p e below QQ (T65.setTop (mkF m 243 #[.val (.long p1), .second, .val (.long p2), .second, iv p3, iv p4, iv ln, iv (Int32.ofNat tn), iv of, .unset, .unset, .unset, .unset] [(.int 11), (.ref b10), (.ref b10)]))
                    refine Goes.on (fun t k => XS.lloadN X65.here hx rfl (hb hby at_243) rfl k) ?_
                    show Goes p e below QQ (T65.setTop (mkF m 244 #[.val (.long p1), .second, .val (.long p2), .second, iv p3, iv p4, iv ln, iv (Int32.ofNat tn), iv of, .unset, .unset, .unset, .unset] [(.long p2), (.int 11), (.ref b10), (.ref b10)]))
                    refine Goes.on (fun t k => XS.bipush X65.here hx rfl (hb hby at_244) k) ?_
                    show Goes p e below QQ (T65.setTop (mkF m 246 #[.val (.long p1), .second, .val (.long p2), .second, iv p3, iv p4, iv ln, iv (Int32.ofNat tn), iv of, .unset, .unset, .unset, .unset] [(.int 11), (.long p2), (.int 11), (.ref b10), (.ref b10)]))
                    obtain ⟨_, _, ⟨T68, L68, k68, n68⟩, -, X68, ⟨Lc68, hQ68, l68, y68, z68⟩, st68⟩ := Jvm.LawKit.callS X65 hx (y := (⟨"com/example/lendgate/lendgate/circulation/DecoderCountPinLaw", "jb", "(JI)B"⟩ : MethodName)) hown (mvT hZ (hw _ (List.mem_of_getElem? (i := 2) rfl))) (mvT hZ (hw _ (List.mem_of_getElem? (i := 3) rfl))) (mvT hZ (hw _ (List.mem_of_getElem? (i := 4) rfl))) (mvT hZ (hw _ (List.mem_of_getElem? (i := 5) rfl))) (by decide) (backOf (W := 3) (rmJb l Z a0 hw [] p2 (11 : Int32) h65 n0 (Nat.le_trans Z0 K65.1) ) hZ (hw _ (List.mem_of_getElem? (i := 5) rfl)) (hw _ (List.mem_of_getElem? (i := 4) rfl)) (by decide) (by decide)) (g := (mkF m 246 #[.val (.long p1), .second, .val (.long p2), .second, iv p3, iv p4, iv ln, iv (Int32.ofNat tn), iv of, .unset, .unset, .unset, .unset] [(.int 11), (.long p2), (.int 11), (.ref b10), (.ref b10)])) rfl (by rw [hml]; rfl) (argsL := [(.long p2), (.int 11)]) (rest := [(.int 11), (.ref b10), (.ref b10)]) (lenOf pd_1 rfl) rfl (by show 2 * 0 + _ ≤ _; exact Nat.le_of_eq rfl) (hb hby at_246) (fun _ _ => ⟨rfl, e65, (by decide : 1 + 0 ≤ _), (by decide : 14 + 0 ≤ _)⟩)
                    dsimp only [Pt.U, Pt.locs, Pt.cells, Pt.slots] at X68 l68 y68 z68 st68 hQ68
                    have l68 := l68.symm; have y68 := y68.symm; have z68 := z68.symm; subst l68 y68 z68
                    have X68 : Stand p l e room_1 s m #[(.long p1), (.long p2), (.int p3), (.int p4)] below meth c T68 _ 1 14 := X68
                    obtain ⟨rfl, M68, e68⟩ := hQ68
                    have N68 := Fr.app N65 M68
                    refine Goes.on (fun t k => st68 _ k) ?_
                    show Goes p e below QQ (T68.setTop (mkF m 249 #[.val (.long p1), .second, .val (.long p2), .second, iv p3, iv p4, iv ln, iv (Int32.ofNat tn), iv of, .unset, .unset, .unset, .unset] [(.int (jbF p2 (11 : Int32))), (.int 11), (.ref b10), (.ref b10)]))
                    obtain ⟨cl69, Ar69, aq69, aS69, aN69, aH69, aG69⟩ := id V_67
                    have hin69 := inb_of (j := (11 : Int32)) aS69 ⟨by decide, by decide⟩
                    obtain ⟨T70, h70, X70, e70, W70, st70⟩ := stB X68 hx hZ e68 Ar69 (j := (11 : Int32)) hin69 (g := (mkF m 249 #[.val (.long p1), .second, .val (.long p2), .second, iv p3, iv p4, iv ln, iv (Int32.ofNat tn), iv of, .unset, .unset, .unset, .unset] [(.int (jbF p2 (11 : Int32))), (.int 11), (.ref b10), (.ref b10)])) rfl rfl (hb hby at_249)
                    have O_71 := O_66.wr W70 g_b10
                    have K70 := K65.wr W70 (Or.inr sz_b10)
                    have N70 := Fr.snoc X70 N68 g_b10
                    have V_72 : Arv Z h70 b10 k10 .byte (14 : Int32) [(.int (jbF p2 (0 : Int32)).toInt8.toInt32), (.int (jbF p2 (1 : Int32)).toInt8.toInt32), (.int (jbF p2 (2 : Int32)).toInt8.toInt32), (.int (jbF p2 (3 : Int32)).toInt8.toInt32), (.int (jbF p2 (4 : Int32)).toInt8.toInt32), (.int (jbF p2 (5 : Int32)).toInt8.toInt32), (.int (jbF p2 (6 : Int32)).toInt8.toInt32), (.int (jbF p2 (7 : Int32)).toInt8.toInt32), (.int (jbF p2 (8 : Int32)).toInt8.toInt32), (.int (jbF p2 (9 : Int32)).toInt8.toInt32), (.int (jbF p2 (10 : Int32)).toInt8.toInt32), (.int (jbF p2 (11 : Int32)).toInt8.toInt32), (.int 0), (.int 0)] (.int 0) := Arv.set Ar69 aq69 aS69 aN69 aH69 aG69 (fits_nar_byte _) W70 11 rfl (Nat.le_of_ble_eq_true rfl)
                    refine Goes.on (fun t k => st70 t k) ?_
                    show Goes p e below QQ (T70.setTop (mkF m 250 #[.val (.long p1), .second, .val (.long p2), .second, iv p3, iv p4, iv ln, iv (Int32.ofNat tn), iv of, .unset, .unset, .unset, .unset] [(.ref b10)]))
                    refine Goes.on (fun t k => XS.dup X70.here hx rfl (hb hby at_250) rfl rfl k) ?_
                    show Goes p e below QQ (T70.setTop (mkF m 251 #[.val (.long p1), .second, .val (.long p2), .second, iv p3, iv p4, iv ln, iv (Int32.ofNat tn), iv of, .unset, .unset, .unset, .unset] [(.ref b10), (.ref b10)]))
                    refine Goes.on (fun t k => XS.bipush X70.here hx rfl (hb hby at_251) k) ?_
                    show Goes p e below QQ (T70.setTop (mkF m 253 #[.val (.long p1), .second, .val (.long p2), .second, iv p3, iv p4, iv ln, iv (Int32.ofNat tn), iv of, .unset, .unset, .unset, .unset] [(.int 12), (.ref b10), (.ref b10)]))
                    refine Goes.on (fun t k => XS.lloadN X70.here hx rfl (hb hby at_253) rfl k) ?_
                    show Goes p e below QQ (T70.setTop (mkF m 254 #[.val (.long p1), .second, .val (.long p2), .second, iv p3, iv p4, iv ln, iv (Int32.ofNat tn), iv of, .unset, .unset, .unset, .unset] [(.long p2), (.int 12), (.ref b10), (.ref b10)]))
                    refine Goes.on (fun t k => XS.bipush X70.here hx rfl (hb hby at_254) k) ?_
                    show Goes p e below QQ (T70.setTop (mkF m 256 #[.val (.long p1), .second, .val (.long p2), .second, iv p3, iv p4, iv ln, iv (Int32.ofNat tn), iv of, .unset, .unset, .unset, .unset] [(.int 12), (.long p2), (.int 12), (.ref b10), (.ref b10)]))
                    obtain ⟨_, _, ⟨T73, L73, k73, n73⟩, -, X73, ⟨Lc73, hQ73, l73, y73, z73⟩, st73⟩ := Jvm.LawKit.callS X70 hx (y := (⟨"com/example/lendgate/lendgate/circulation/DecoderCountPinLaw", "jb", "(JI)B"⟩ : MethodName)) hown (mvT hZ (hw _ (List.mem_of_getElem? (i := 2) rfl))) (mvT hZ (hw _ (List.mem_of_getElem? (i := 3) rfl))) (mvT hZ (hw _ (List.mem_of_getElem? (i := 4) rfl))) (mvT hZ (hw _ (List.mem_of_getElem? (i := 5) rfl))) (by decide) (backOf (W := 3) (rmJb l Z a0 hw [] p2 (12 : Int32) h70 n0 (Nat.le_trans Z0 K70.1) ) hZ (hw _ (List.mem_of_getElem? (i := 5) rfl)) (hw _ (List.mem_of_getElem? (i := 4) rfl)) (by decide) (by decide)) (g := (mkF m 256 #[.val (.long p1), .second, .val (.long p2), .second, iv p3, iv p4, iv ln, iv (Int32.ofNat tn), iv of, .unset, .unset, .unset, .unset] [(.int 12), (.long p2), (.int 12), (.ref b10), (.ref b10)])) rfl (by rw [hml]; rfl) (argsL := [(.long p2), (.int 12)]) (rest := [(.int 12), (.ref b10), (.ref b10)]) (lenOf pd_1 rfl) rfl (by show 2 * 0 + _ ≤ _; exact Nat.le_of_eq rfl) (hb hby at_256) (fun _ _ => ⟨rfl, e70, (by decide : 1 + 0 ≤ _), (by decide : 14 + 0 ≤ _)⟩)
                    dsimp only [Pt.U, Pt.locs, Pt.cells, Pt.slots] at X73 l73 y73 z73 st73 hQ73
                    have l73 := l73.symm; have y73 := y73.symm; have z73 := z73.symm; subst l73 y73 z73
                    have X73 : Stand p l e room_1 s m #[(.long p1), (.long p2), (.int p3), (.int p4)] below meth c T73 _ 1 14 := X73
                    obtain ⟨rfl, M73, e73⟩ := hQ73
                    have N73 := Fr.app N70 M73
                    refine Goes.on (fun t k => st73 _ k) ?_
                    show Goes p e below QQ (T73.setTop (mkF m 259 #[.val (.long p1), .second, .val (.long p2), .second, iv p3, iv p4, iv ln, iv (Int32.ofNat tn), iv of, .unset, .unset, .unset, .unset] [(.int (jbF p2 (12 : Int32))), (.int 12), (.ref b10), (.ref b10)]))
                    obtain ⟨cl74, Ar74, aq74, aS74, aN74, aH74, aG74⟩ := id V_72
                    have hin74 := inb_of (j := (12 : Int32)) aS74 ⟨by decide, by decide⟩
                    obtain ⟨T75, h75, X75, e75, W75, st75⟩ := stB X73 hx hZ e73 Ar74 (j := (12 : Int32)) hin74 (g := (mkF m 259 #[.val (.long p1), .second, .val (.long p2), .second, iv p3, iv p4, iv ln, iv (Int32.ofNat tn), iv of, .unset, .unset, .unset, .unset] [(.int (jbF p2 (12 : Int32))), (.int 12), (.ref b10), (.ref b10)])) rfl rfl (hb hby at_259)
                    have O_76 := O_71.wr W75 g_b10
                    have K75 := K70.wr W75 (Or.inr sz_b10)
                    have N75 := Fr.snoc X75 N73 g_b10
                    have V_77 : Arv Z h75 b10 k10 .byte (14 : Int32) [(.int (jbF p2 (0 : Int32)).toInt8.toInt32), (.int (jbF p2 (1 : Int32)).toInt8.toInt32), (.int (jbF p2 (2 : Int32)).toInt8.toInt32), (.int (jbF p2 (3 : Int32)).toInt8.toInt32), (.int (jbF p2 (4 : Int32)).toInt8.toInt32), (.int (jbF p2 (5 : Int32)).toInt8.toInt32), (.int (jbF p2 (6 : Int32)).toInt8.toInt32), (.int (jbF p2 (7 : Int32)).toInt8.toInt32), (.int (jbF p2 (8 : Int32)).toInt8.toInt32), (.int (jbF p2 (9 : Int32)).toInt8.toInt32), (.int (jbF p2 (10 : Int32)).toInt8.toInt32), (.int (jbF p2 (11 : Int32)).toInt8.toInt32), (.int (jbF p2 (12 : Int32)).toInt8.toInt32), (.int 0)] (.int 0) := Arv.set Ar74 aq74 aS74 aN74 aH74 aG74 (fits_nar_byte _) W75 12 rfl (Nat.le_of_ble_eq_true rfl)
                    refine Goes.on (fun t k => st75 t k) ?_
                    show Goes p e below QQ (T75.setTop (mkF m 260 #[.val (.long p1), .second, .val (.long p2), .second, iv p3, iv p4, iv ln, iv (Int32.ofNat tn), iv of, .unset, .unset, .unset, .unset] [(.ref b10)]))
                    refine Goes.on (fun t k => XS.dup X75.here hx rfl (hb hby at_260) rfl rfl k) ?_
                    show Goes p e below QQ (T75.setTop (mkF m 261 #[.val (.long p1), .second, .val (.long p2), .second, iv p3, iv p4, iv ln, iv (Int32.ofNat tn), iv of, .unset, .unset, .unset, .unset] [(.ref b10), (.ref b10)]))
                    refine Goes.on (fun t k => XS.bipush X75.here hx rfl (hb hby at_261) k) ?_
                    show Goes p e below QQ (T75.setTop (mkF m 263 #[.val (.long p1), .second, .val (.long p2), .second, iv p3, iv p4, iv ln, iv (Int32.ofNat tn), iv of, .unset, .unset, .unset, .unset] [(.int 13), (.ref b10), (.ref b10)]))
                    refine Goes.on (fun t k => XS.lloadN X75.here hx rfl (hb hby at_263) rfl k) ?_
                    show Goes p e below QQ (T75.setTop (mkF m 264 #[.val (.long p1), .second, .val (.long p2), .second, iv p3, iv p4, iv ln, iv (Int32.ofNat tn), iv of, .unset, .unset, .unset, .unset] [(.long p2), (.int 13), (.ref b10), (.ref b10)]))
                    refine Goes.on (fun t k => XS.bipush X75.here hx rfl (hb hby at_264) k) ?_
                    show Goes p e below QQ (T75.setTop (mkF m 266 #[.val (.long p1), .second, .val (.long p2), .second, iv p3, iv p4, iv ln, iv (Int32.ofNat tn), iv of, .unset, .unset, .unset, .unset] [(.int 13), (.long p2), (.int 13), (.ref b10), (.ref b10)]))
                    obtain ⟨_, _, ⟨T78, L78, k78, n78⟩, -, X78, ⟨Lc78, hQ78, l78, y78, z78⟩, st78⟩ := Jvm.LawKit.callS X75 hx (y := (⟨"com/example/lendgate/lendgate/circulation/DecoderCountPinLaw", "jb", "(JI)B"⟩ : MethodName)) hown (mvT hZ (hw _ (List.mem_of_getElem? (i := 2) rfl))) (mvT hZ (hw _ (List.mem_of_getElem? (i := 3) rfl))) (mvT hZ (hw _ (List.mem_of_getElem? (i := 4) rfl))) (mvT hZ (hw _ (List.mem_of_getElem? (i := 5) rfl))) (by decide) (backOf (W := 3) (rmJb l Z a0 hw [] p2 (13 : Int32) h75 n0 (Nat.le_trans Z0 K75.1) ) hZ (hw _ (List.mem_of_getElem? (i := 5) rfl)) (hw _ (List.mem_of_getElem? (i := 4) rfl)) (by decide) (by decide)) (g := (mkF m 266 #[.val (.long p1), .second, .val (.long p2), .second, iv p3, iv p4, iv ln, iv (Int32.ofNat tn), iv of, .unset, .unset, .unset, .unset] [(.int 13), (.long p2), (.int 13), (.ref b10), (.ref b10)])) rfl (by rw [hml]; rfl) (argsL := [(.long p2), (.int 13)]) (rest := [(.int 13), (.ref b10), (.ref b10)]) (lenOf pd_1 rfl) rfl (by show 2 * 0 + _ ≤ _; exact Nat.le_of_eq rfl) (hb hby at_266) (fun _ _ => ⟨rfl, e75, (by decide : 1 + 0 ≤ _), (by decide : 14 + 0 ≤ _)⟩)
                    dsimp only [Pt.U, Pt.locs, Pt.cells, Pt.slots] at X78 l78 y78 z78 st78 hQ78
                    have l78 := l78.symm; have y78 := y78.symm; have z78 := z78.symm; subst l78 y78 z78
                    have X78 : Stand p l e room_1 s m #[(.long p1), (.long p2), (.int p3), (.int p4)] below meth c T78 _ 1 14 := X78
                    obtain ⟨rfl, M78, e78⟩ := hQ78
                    have N78 := Fr.app N75 M78
                    refine Goes.on (fun t k => st78 _ k) ?_
                    show Goes p e below QQ (T78.setTop (mkF m 269 #[.val (.long p1), .second, .val (.long p2), .second, iv p3, iv p4, iv ln, iv (Int32.ofNat tn), iv of, .unset, .unset, .unset, .unset] [(.int (jbF p2 (13 : Int32))), (.int 13), (.ref b10), (.ref b10)]))
                    obtain ⟨cl79, Ar79, aq79, aS79, aN79, aH79, aG79⟩ := id V_77
                    have hin79 := inb_of (j := (13 : Int32)) aS79 ⟨by decide, by decide⟩
                    obtain ⟨T80, h80, X80, e80, W80, st80⟩ := stB X78 hx hZ e78 Ar79 (j := (13 : Int32)) hin79 (g := (mkF m 269 #[.val (.long p1), .second, .val (.long p2), .second, iv p3, iv p4, iv ln, iv (Int32.ofNat tn), iv of, .unset, .unset, .unset, .unset] [(.int (jbF p2 (13 : Int32))), (.int 13), (.ref b10), (.ref b10)])) rfl rfl (hb hby at_269)
                    have O_81 := O_76.wr W80 g_b10
                    have K80 := K75.wr W80 (Or.inr sz_b10)
                    have N80 := Fr.snoc X80 N78 g_b10
                    have V_82 : Arv Z h80 b10 k10 .byte (14 : Int32) [(.int (jbF p2 (0 : Int32)).toInt8.toInt32), (.int (jbF p2 (1 : Int32)).toInt8.toInt32), (.int (jbF p2 (2 : Int32)).toInt8.toInt32), (.int (jbF p2 (3 : Int32)).toInt8.toInt32), (.int (jbF p2 (4 : Int32)).toInt8.toInt32), (.int (jbF p2 (5 : Int32)).toInt8.toInt32), (.int (jbF p2 (6 : Int32)).toInt8.toInt32), (.int (jbF p2 (7 : Int32)).toInt8.toInt32), (.int (jbF p2 (8 : Int32)).toInt8.toInt32), (.int (jbF p2 (9 : Int32)).toInt8.toInt32), (.int (jbF p2 (10 : Int32)).toInt8.toInt32), (.int (jbF p2 (11 : Int32)).toInt8.toInt32), (.int (jbF p2 (12 : Int32)).toInt8.toInt32), (.int (jbF p2 (13 : Int32)).toInt8.toInt32)] (.int 0) := Arv.set Ar79 aq79 aS79 aN79 aH79 aG79 (fits_nar_byte _) W80 13 rfl (Nat.le_of_ble_eq_true rfl)
                    refine Goes.on (fun t k => st80 t k) ?_
                    show Goes p e below QQ (T80.setTop (mkF m 270 #[.val (.long p1), .second, .val (.long p2), .second, iv p3, iv p4, iv ln, iv (Int32.ofNat tn), iv of, .unset, .unset, .unset, .unset] [(.ref b10)]))
                    refine Goes.on (fun t k => XS.astore X80.here hx rfl (hb hby at_270) rfl rfl (l' := #[.val (.long p1), .second, .val (.long p2), .second, iv p3, iv p4, iv ln, iv (Int32.ofNat tn), iv of, rv b10, .unset, .unset, .unset]) rfl k) ?_
                    show Goes p e below QQ (T80.setTop (mkF m 272 #[.val (.long p1), .second, .val (.long p2), .second, iv p3, iv p4, iv ln, iv (Int32.ofNat tn), iv of, rv b10, .unset, .unset, .unset] []))
                    obtain ⟨vs0, hvs0⟩ : ∃ z : List Value, z = [(.int (jbF p2 (0 : Int32)).toInt8.toInt32), (.int (jbF p2 (1 : Int32)).toInt8.toInt32), (.int (jbF p2 (2 : Int32)).toInt8.toInt32), (.int (jbF p2 (3 : Int32)).toInt8.toInt32), (.int (jbF p2 (4 : Int32)).toInt8.toInt32), (.int (jbF p2 (5 : Int32)).toInt8.toInt32), (.int (jbF p2 (6 : Int32)).toInt8.toInt32), (.int (jbF p2 (7 : Int32)).toInt8.toInt32), (.int (jbF p2 (8 : Int32)).toInt8.toInt32), (.int (jbF p2 (9 : Int32)).toInt8.toInt32), (.int (jbF p2 (10 : Int32)).toInt8.toInt32), (.int (jbF p2 (11 : Int32)).toInt8.toInt32), (.int (jbF p2 (12 : Int32)).toInt8.toInt32), (.int (jbF p2 (13 : Int32)).toInt8.toInt32)] := ⟨_, rfl⟩
                    have V_83 := V_82
                    rw [← hvs0] at V_83
                    have hl0 : vs0.length = 14 := by rw [hvs0]; rfl
                    clear hvs0
                    show Goes p e below QQ (T80.setTop (mkF m 272 #[.val (.long p1), .second, .val (.long p2), .second, iv p3, iv p4, iv ln, iv (Int32.ofNat tn), iv of, rv b10, .unset, .unset, .unset] []))
                    refine Goes.on (fun t k => XS.aload X80.here hx rfl (hb hby at_272) rfl rfl k) ?_
                    show Goes p e below QQ (T80.setTop (mkF m 274 #[.val (.long p1), .second, .val (.long p2), .second, iv p3, iv p4, iv ln, iv (Int32.ofNat tn), iv of, rv b10, .unset, .unset, .unset] [(.ref b10)]))
                    refine Goes.on (fun t k => XS.iload X80.here hx rfl (hb hby at_274) rfl k) ?_
                    show Goes p e below QQ (T80.setTop (mkF m 276 #[.val (.long p1), .second, .val (.long p2), .second, iv p3, iv p4, iv ln, iv (Int32.ofNat tn), iv of, rv b10, .unset, .unset, .unset] [(.int of), (.ref b10)]))
                    refine Goes.on (fun t k => XS.iconst X80.here hx rfl (hb hby at_276) k) ?_
                    show Goes p e below QQ (T80.setTop (mkF m 277 #[.val (.long p1), .second, .val (.long p2), .second, iv p3, iv p4, iv ln, iv (Int32.ofNat tn), iv of, rv b10, .unset, .unset, .unset] [(.int 0), (.int of), (.ref b10)]))
                    refine Goes.on (fun t k => XS.iload X80.here hx rfl (hb hby at_277) rfl k) ?_
                    show Goes p e below QQ (T80.setTop (mkF m 279 #[.val (.long p1), .second, .val (.long p2), .second, iv p3, iv p4, iv ln, iv (Int32.ofNat tn), iv of, rv b10, .unset, .unset, .unset] [(.int (Int32.ofNat tn)), (.int 0), (.int of), (.ref b10)]))
                    refine Goes.on (fun t k => XS.lloadN X80.here hx rfl (hb hby at_279) rfl k) ?_
                    show Goes p e below QQ (T80.setTop (mkF m 280 #[.val (.long p1), .second, .val (.long p2), .second, iv p3, iv p4, iv ln, iv (Int32.ofNat tn), iv of, rv b10, .unset, .unset, .unset] [(.long p1), (.int (Int32.ofNat tn)), (.int 0), (.int of), (.ref b10)]))
                    obtain ⟨_, _, ⟨T84, L84, k84, n84⟩, -, X84, ⟨Lc84, hQ84, l84, y84, z84⟩, st84⟩ := Jvm.LawKit.callS X80 hx (y := (⟨"com/example/lendgate/lendgate/circulation/DecoderCountPinLaw", "put", "([BIIIJ)V"⟩ : MethodName)) hown (mvT hZ (hw _ (List.mem_of_getElem? (i := 6) rfl))) (mvT hZ (hw _ (List.mem_of_getElem? (i := 7) rfl))) (mvT hZ (hw _ (List.mem_of_getElem? (i := 4) rfl))) (mvT hZ (hw _ (List.mem_of_getElem? (i := 8) rfl))) (by decide) (backOf (W := 0) (rmPu l Z a0 hw [] b10 of (0 : Int32) (Int32.ofNat tn) p1 k10 (14 : Int32) vs0 h80 n0 (Nat.le_trans Z0 K80.1) V_83 g_b10 (own_in of hv4 (0 : Int32) (by decide)) (by rw [hl0]; exact own_lt of hv4 (0 : Int32) (by decide))) hZ (hw _ (List.mem_of_getElem? (i := 8) rfl)) (hw _ (List.mem_of_getElem? (i := 4) rfl)) (by decide) (by decide)) (g := (mkF m 280 #[.val (.long p1), .second, .val (.long p2), .second, iv p3, iv p4, iv ln, iv (Int32.ofNat tn), iv of, rv b10, .unset, .unset, .unset] [(.long p1), (.int (Int32.ofNat tn)), (.int 0), (.int of), (.ref b10)])) rfl (by rw [hml]; rfl) (argsL := [(.ref b10), (.int of), (.int 0), (.int (Int32.ofNat tn)), (.long p1)]) (rest := []) (lenOf pd_2 rfl) rfl (by show 2 * 0 + _ ≤ _; exact Nat.le_of_eq rfl) (hb hby at_280) (fun _ _ => ⟨rfl, e80, (by decide : 1 + 0 ≤ _), (by decide : 14 + 0 ≤ _)⟩)
                    dsimp only [Pt.U, Pt.locs, Pt.cells, Pt.slots] at X84 l84 y84 z84 st84 hQ84
                    have l84 := l84.symm; have y84 := y84.symm; have z84 := z84.symm; subst l84 y84 z84
                    have X84 : Stand p l e room_1 s m #[(.long p1), (.long p2), (.int p3), (.int p4)] below meth c T84 _ 1 14 := X84
                    obtain ⟨rfl, M84, Kp0, Vp0⟩ := hQ84
                    have N84 := Fr.app N80 M84
                    refine Goes.on (fun t k => st84 _ k) ?_
                    have O_85 := O_81.keep Kp0 (allS g_b10 all0)
                    have K87 := K80.trans Kp0 (allS (Or.inr sz_b10) all0)
                    show Goes p e below QQ (T84.setTop (mkF m 283 #[.val (.long p1), .second, .val (.long p2), .second, iv p3, iv p4, iv ln, iv (Int32.ofNat tn), iv of, rv b10, .unset, .unset, .unset] []))
                    obtain ⟨vs1, hvs1⟩ : ∃ z : List Value, z = (putL of (0 : Int32) (Int32.ofNat tn) p1 vs0) := ⟨_, rfl⟩
                    have V_88 := Vp0
                    rw [← hvs1] at V_88
                    have hl1 : vs1.length = 14 := by rw [hvs1, own_putlen]; exact hl0
                    show Goes p e below QQ (T84.setTop (mkF m 283 #[.val (.long p1), .second, .val (.long p2), .second, iv p3, iv p4, iv ln, iv (Int32.ofNat tn), iv of, rv b10, .unset, .unset, .unset] []))
                    refine Goes.on (fun t k => XS.aload X84.here hx rfl (hb hby at_283) rfl rfl k) ?_
                    show Goes p e below QQ (T84.setTop (mkF m 285 #[.val (.long p1), .second, .val (.long p2), .second, iv p3, iv p4, iv ln, iv (Int32.ofNat tn), iv of, rv b10, .unset, .unset, .unset] [(.ref b10)]))
                    refine Goes.on (fun t k => XS.iload X84.here hx rfl (hb hby at_285) rfl k) ?_
                    show Goes p e below QQ (T84.setTop (mkF m 287 #[.val (.long p1), .second, .val (.long p2), .second, iv p3, iv p4, iv ln, iv (Int32.ofNat tn), iv of, rv b10, .unset, .unset, .unset] [(.int of), (.ref b10)]))
                    refine Goes.on (fun t k => XS.iconst X84.here hx rfl (hb hby at_287) k) ?_
                    show Goes p e below QQ (T84.setTop (mkF m 288 #[.val (.long p1), .second, .val (.long p2), .second, iv p3, iv p4, iv ln, iv (Int32.ofNat tn), iv of, rv b10, .unset, .unset, .unset] [(.int 1), (.int of), (.ref b10)]))
                    refine Goes.on (fun t k => XS.iload X84.here hx rfl (hb hby at_288) rfl k) ?_
                    show Goes p e below QQ (T84.setTop (mkF m 290 #[.val (.long p1), .second, .val (.long p2), .second, iv p3, iv p4, iv ln, iv (Int32.ofNat tn), iv of, rv b10, .unset, .unset, .unset] [(.int (Int32.ofNat tn)), (.int 1), (.int of), (.ref b10)]))
                    refine Goes.on (fun t k => XS.lloadN X84.here hx rfl (hb hby at_290) rfl k) ?_
                    show Goes p e below QQ (T84.setTop (mkF m 291 #[.val (.long p1), .second, .val (.long p2), .second, iv p3, iv p4, iv ln, iv (Int32.ofNat tn), iv of, rv b10, .unset, .unset, .unset] [(.long p1), (.int (Int32.ofNat tn)), (.int 1), (.int of), (.ref b10)]))
                    obtain ⟨_, _, ⟨T89, L89, k89, n89⟩, -, X89, ⟨Lc89, hQ89, l89, y89, z89⟩, st89⟩ := Jvm.LawKit.callS X84 hx (y := (⟨"com/example/lendgate/lendgate/circulation/DecoderCountPinLaw", "put", "([BIIIJ)V"⟩ : MethodName)) hown (mvT hZ (hw _ (List.mem_of_getElem? (i := 6) rfl))) (mvT hZ (hw _ (List.mem_of_getElem? (i := 7) rfl))) (mvT hZ (hw _ (List.mem_of_getElem? (i := 4) rfl))) (mvT hZ (hw _ (List.mem_of_getElem? (i := 8) rfl))) (by decide) (backOf (W := 0) (rmPu l Z a0 hw [] b10 of (1 : Int32) (Int32.ofNat tn) p1 k10 (14 : Int32) vs1 T84.heap n0 (Nat.le_trans Z0 K87.1) V_88 g_b10 (own_in of hv4 (1 : Int32) (by decide)) (by rw [hl1]; exact own_lt of hv4 (1 : Int32) (by decide))) hZ (hw _ (List.mem_of_getElem? (i := 8) rfl)) (hw _ (List.mem_of_getElem? (i := 4) rfl)) (by decide) (by decide)) (g := (mkF m 291 #[.val (.long p1), .second, .val (.long p2), .second, iv p3, iv p4, iv ln, iv (Int32.ofNat tn), iv of, rv b10, .unset, .unset, .unset] [(.long p1), (.int (Int32.ofNat tn)), (.int 1), (.int of), (.ref b10)])) rfl (by rw [hml]; rfl) (argsL := [(.ref b10), (.int of), (.int 1), (.int (Int32.ofNat tn)), (.long p1)]) (rest := []) (lenOf pd_2 rfl) rfl (by show 2 * 0 + _ ≤ _; exact Nat.le_of_eq rfl) (hb hby at_291) (fun _ _ => ⟨rfl, rfl, (by decide : 1 + 0 ≤ _), (by decide : 14 + 0 ≤ _)⟩)
                    dsimp only [Pt.U, Pt.locs, Pt.cells, Pt.slots] at X89 l89 y89 z89 st89 hQ89
                    have l89 := l89.symm; have y89 := y89.symm; have z89 := z89.symm; subst l89 y89 z89
                    have X89 : Stand p l e room_1 s m #[(.long p1), (.long p2), (.int p3), (.int p4)] below meth c T89 _ 1 14 := X89
                    obtain ⟨rfl, M89, Kp1, Vp1⟩ := hQ89
                    have N89 := Fr.app N84 M89
                    refine Goes.on (fun t k => st89 _ k) ?_
                    have O_90 := O_85.keep Kp1 (allS g_b10 all0)
                    have K92 := K87.trans Kp1 (allS (Or.inr sz_b10) all0)
                    show Goes p e below QQ (T89.setTop (mkF m 294 #[.val (.long p1), .second, .val (.long p2), .second, iv p3, iv p4, iv ln, iv (Int32.ofNat tn), iv of, rv b10, .unset, .unset, .unset] []))
                    obtain ⟨vs2, hvs2⟩ : ∃ z : List Value, z = (putL of (1 : Int32) (Int32.ofNat tn) p1 vs1) := ⟨_, rfl⟩
                    have V_93 := Vp1
                    rw [← hvs2] at V_93
                    have hl2 : vs2.length = 14 := by rw [hvs2, own_putlen]; exact hl1
                    show Goes p e below QQ (T89.setTop (mkF m 294 #[.val (.long p1), .second, .val (.long p2), .second, iv p3, iv p4, iv ln, iv (Int32.ofNat tn), iv of, rv b10, .unset, .unset, .unset] []))
                    refine Goes.on (fun t k => XS.aload X89.here hx rfl (hb hby at_294) rfl rfl k) ?_
                    show Goes p e below QQ (T89.setTop (mkF m 296 #[.val (.long p1), .second, .val (.long p2), .second, iv p3, iv p4, iv ln, iv (Int32.ofNat tn), iv of, rv b10, .unset, .unset, .unset] [(.ref b10)]))
                    refine Goes.on (fun t k => XS.iload X89.here hx rfl (hb hby at_296) rfl k) ?_
                    show Goes p e below QQ (T89.setTop (mkF m 298 #[.val (.long p1), .second, .val (.long p2), .second, iv p3, iv p4, iv ln, iv (Int32.ofNat tn), iv of, rv b10, .unset, .unset, .unset] [(.int of), (.ref b10)]))
                    refine Goes.on (fun t k => XS.iconst X89.here hx rfl (hb hby at_298) k) ?_
                    show Goes p e below QQ (T89.setTop (mkF m 299 #[.val (.long p1), .second, .val (.long p2), .second, iv p3, iv p4, iv ln, iv (Int32.ofNat tn), iv of, rv b10, .unset, .unset, .unset] [(.int 2), (.int of), (.ref b10)]))
                    refine Goes.on (fun t k => XS.iload X89.here hx rfl (hb hby at_299) rfl k) ?_
                    show Goes p e below QQ (T89.setTop (mkF m 301 #[.val (.long p1), .second, .val (.long p2), .second, iv p3, iv p4, iv ln, iv (Int32.ofNat tn), iv of, rv b10, .unset, .unset, .unset] [(.int (Int32.ofNat tn)), (.int 2), (.int of), (.ref b10)]))
                    refine Goes.on (fun t k => XS.lloadN X89.here hx rfl (hb hby at_301) rfl k) ?_
                    show Goes p e below QQ (T89.setTop (mkF m 302 #[.val (.long p1), .second, .val (.long p2), .second, iv p3, iv p4, iv ln, iv (Int32.ofNat tn), iv of, rv b10, .unset, .unset, .unset] [(.long p1), (.int (Int32.ofNat tn)), (.int 2), (.int of), (.ref b10)]))
                    obtain ⟨_, _, ⟨T94, L94, k94, n94⟩, -, X94, ⟨Lc94, hQ94, l94, y94, z94⟩, st94⟩ := Jvm.LawKit.callS X89 hx (y := (⟨"com/example/lendgate/lendgate/circulation/DecoderCountPinLaw", "put", "([BIIIJ)V"⟩ : MethodName)) hown (mvT hZ (hw _ (List.mem_of_getElem? (i := 6) rfl))) (mvT hZ (hw _ (List.mem_of_getElem? (i := 7) rfl))) (mvT hZ (hw _ (List.mem_of_getElem? (i := 4) rfl))) (mvT hZ (hw _ (List.mem_of_getElem? (i := 8) rfl))) (by decide) (backOf (W := 0) (rmPu l Z a0 hw [] b10 of (2 : Int32) (Int32.ofNat tn) p1 k10 (14 : Int32) vs2 T89.heap n0 (Nat.le_trans Z0 K92.1) V_93 g_b10 (own_in of hv4 (2 : Int32) (by decide)) (by rw [hl2]; exact own_lt of hv4 (2 : Int32) (by decide))) hZ (hw _ (List.mem_of_getElem? (i := 8) rfl)) (hw _ (List.mem_of_getElem? (i := 4) rfl)) (by decide) (by decide)) (g := (mkF m 302 #[.val (.long p1), .second, .val (.long p2), .second, iv p3, iv p4, iv ln, iv (Int32.ofNat tn), iv of, rv b10, .unset, .unset, .unset] [(.long p1), (.int (Int32.ofNat tn)), (.int 2), (.int of), (.ref b10)])) rfl (by rw [hml]; rfl) (argsL := [(.ref b10), (.int of), (.int 2), (.int (Int32.ofNat tn)), (.long p1)]) (rest := []) (lenOf pd_2 rfl) rfl (by show 2 * 0 + _ ≤ _; exact Nat.le_of_eq rfl) (hb hby at_302) (fun _ _ => ⟨rfl, rfl, (by decide : 1 + 0 ≤ _), (by decide : 14 + 0 ≤ _)⟩)
                    dsimp only [Pt.U, Pt.locs, Pt.cells, Pt.slots] at X94 l94 y94 z94 st94 hQ94
                    have l94 := l94.symm; have y94 := y94.symm; have z94 := z94.symm; subst l94 y94 z94
                    have X94 : Stand p l e room_1 s m #[(.long p1), (.long p2), (.int p3), (.int p4)] below meth c T94 _ 1 14 := X94
                    obtain ⟨rfl, M94, Kp2, Vp2⟩ := hQ94
                    have N94 := Fr.app N89 M94
                    refine Goes.on (fun t k => st94 _ k) ?_
                    have O_95 := O_90.keep Kp2 (allS g_b10 all0)
                    have K97 := K92.trans Kp2 (allS (Or.inr sz_b10) all0)
                    show Goes p e below QQ (T94.setTop (mkF m 305 #[.val (.long p1), .second, .val (.long p2), .second, iv p3, iv p4, iv ln, iv (Int32.ofNat tn), iv of, rv b10, .unset, .unset, .unset] []))
                    obtain ⟨vs3, hvs3⟩ : ∃ z : List Value, z = (putL of (2 : Int32) (Int32.ofNat tn) p1 vs2) := ⟨_, rfl⟩
                    have V_98 := Vp2
                    rw [← hvs3] at V_98
                    have hl3 : vs3.length = 14 := by rw [hvs3, own_putlen]; exact hl2
                    show Goes p e below QQ (T94.setTop (mkF m 305 #[.val (.long p1), .second, .val (.long p2), .second, iv p3, iv p4, iv ln, iv (Int32.ofNat tn), iv of, rv b10, .unset, .unset, .unset] []))
                    refine Goes.on (fun t k => XS.aload X94.here hx rfl (hb hby at_305) rfl rfl k) ?_
                    show Goes p e below QQ (T94.setTop (mkF m 307 #[.val (.long p1), .second, .val (.long p2), .second, iv p3, iv p4, iv ln, iv (Int32.ofNat tn), iv of, rv b10, .unset, .unset, .unset] [(.ref b10)]))
                    refine Goes.on (fun t k => XS.iload X94.here hx rfl (hb hby at_307) rfl k) ?_
                    show Goes p e below QQ (T94.setTop (mkF m 309 #[.val (.long p1), .second, .val (.long p2), .second, iv p3, iv p4, iv ln, iv (Int32.ofNat tn), iv of, rv b10, .unset, .unset, .unset] [(.int of), (.ref b10)]))
                    refine Goes.on (fun t k => XS.iconst X94.here hx rfl (hb hby at_309) k) ?_
                    show Goes p e below QQ (T94.setTop (mkF m 310 #[.val (.long p1), .second, .val (.long p2), .second, iv p3, iv p4, iv ln, iv (Int32.ofNat tn), iv of, rv b10, .unset, .unset, .unset] [(.int 3), (.int of), (.ref b10)]))
                    refine Goes.on (fun t k => XS.iload X94.here hx rfl (hb hby at_310) rfl k) ?_
                    show Goes p e below QQ (T94.setTop (mkF m 312 #[.val (.long p1), .second, .val (.long p2), .second, iv p3, iv p4, iv ln, iv (Int32.ofNat tn), iv of, rv b10, .unset, .unset, .unset] [(.int (Int32.ofNat tn)), (.int 3), (.int of), (.ref b10)]))
                    refine Goes.on (fun t k => XS.lloadN X94.here hx rfl (hb hby at_312) rfl k) ?_
                    show Goes p e below QQ (T94.setTop (mkF m 313 #[.val (.long p1), .second, .val (.long p2), .second, iv p3, iv p4, iv ln, iv (Int32.ofNat tn), iv of, rv b10, .unset, .unset, .unset] [(.long p1), (.int (Int32.ofNat tn)), (.int 3), (.int of), (.ref b10)]))
                    obtain ⟨_, _, ⟨T99, L99, k99, n99⟩, -, X99, ⟨Lc99, hQ99, l99, y99, z99⟩, st99⟩ := Jvm.LawKit.callS X94 hx (y := (⟨"com/example/lendgate/lendgate/circulation/DecoderCountPinLaw", "put", "([BIIIJ)V"⟩ : MethodName)) hown (mvT hZ (hw _ (List.mem_of_getElem? (i := 6) rfl))) (mvT hZ (hw _ (List.mem_of_getElem? (i := 7) rfl))) (mvT hZ (hw _ (List.mem_of_getElem? (i := 4) rfl))) (mvT hZ (hw _ (List.mem_of_getElem? (i := 8) rfl))) (by decide) (backOf (W := 0) (rmPu l Z a0 hw [] b10 of (3 : Int32) (Int32.ofNat tn) p1 k10 (14 : Int32) vs3 T94.heap n0 (Nat.le_trans Z0 K97.1) V_98 g_b10 (own_in of hv4 (3 : Int32) (by decide)) (by rw [hl3]; exact own_lt of hv4 (3 : Int32) (by decide))) hZ (hw _ (List.mem_of_getElem? (i := 8) rfl)) (hw _ (List.mem_of_getElem? (i := 4) rfl)) (by decide) (by decide)) (g := (mkF m 313 #[.val (.long p1), .second, .val (.long p2), .second, iv p3, iv p4, iv ln, iv (Int32.ofNat tn), iv of, rv b10, .unset, .unset, .unset] [(.long p1), (.int (Int32.ofNat tn)), (.int 3), (.int of), (.ref b10)])) rfl (by rw [hml]; rfl) (argsL := [(.ref b10), (.int of), (.int 3), (.int (Int32.ofNat tn)), (.long p1)]) (rest := []) (lenOf pd_2 rfl) rfl (by show 2 * 0 + _ ≤ _; exact Nat.le_of_eq rfl) (hb hby at_313) (fun _ _ => ⟨rfl, rfl, (by decide : 1 + 0 ≤ _), (by decide : 14 + 0 ≤ _)⟩)
                    dsimp only [Pt.U, Pt.locs, Pt.cells, Pt.slots] at X99 l99 y99 z99 st99 hQ99
                    have l99 := l99.symm; have y99 := y99.symm; have z99 := z99.symm; subst l99 y99 z99
                    have X99 : Stand p l e room_1 s m #[(.long p1), (.long p2), (.int p3), (.int p4)] below meth c T99 _ 1 14 := X99
                    obtain ⟨rfl, M99, Kp3, Vp3⟩ := hQ99
                    have N99 := Fr.app N94 M99
                    refine Goes.on (fun t k => st99 _ k) ?_
                    have O_100 := O_95.keep Kp3 (allS g_b10 all0)
                    have K102 := K97.trans Kp3 (allS (Or.inr sz_b10) all0)
                    show Goes p e below QQ (T99.setTop (mkF m 316 #[.val (.long p1), .second, .val (.long p2), .second, iv p3, iv p4, iv ln, iv (Int32.ofNat tn), iv of, rv b10, .unset, .unset, .unset] []))
                    obtain ⟨vs4, hvs4⟩ : ∃ z : List Value, z = (putL of (3 : Int32) (Int32.ofNat tn) p1 vs3) := ⟨_, rfl⟩
                    have V_103 := Vp3
                    rw [← hvs4] at V_103
                    have hl4 : vs4.length = 14 := by rw [hvs4, own_putlen]; exact hl3
                    show Goes p e below QQ (T99.setTop (mkF m 316 #[.val (.long p1), .second, .val (.long p2), .second, iv p3, iv p4, iv ln, iv (Int32.ofNat tn), iv of, rv b10, .unset, .unset, .unset] []))
                    refine Goes.on (fun t k => XS.aload X99.here hx rfl (hb hby at_316) rfl rfl k) ?_
                    show Goes p e below QQ (T99.setTop (mkF m 318 #[.val (.long p1), .second, .val (.long p2), .second, iv p3, iv p4, iv ln, iv (Int32.ofNat tn), iv of, rv b10, .unset, .unset, .unset] [(.ref b10)]))
                    refine Goes.on (fun t k => XS.iload X99.here hx rfl (hb hby at_318) rfl k) ?_
                    show Goes p e below QQ (T99.setTop (mkF m 320 #[.val (.long p1), .second, .val (.long p2), .second, iv p3, iv p4, iv ln, iv (Int32.ofNat tn), iv of, rv b10, .unset, .unset, .unset] [(.int of), (.ref b10)]))
                    refine Goes.on (fun t k => XS.iconst X99.here hx rfl (hb hby at_320) k) ?_
                    show Goes p e below QQ (T99.setTop (mkF m 321 #[.val (.long p1), .second, .val (.long p2), .second, iv p3, iv p4, iv ln, iv (Int32.ofNat tn), iv of, rv b10, .unset, .unset, .unset] [(.int 4), (.int of), (.ref b10)]))
                    refine Goes.on (fun t k => XS.iload X99.here hx rfl (hb hby at_321) rfl k) ?_
                    show Goes p e below QQ (T99.setTop (mkF m 323 #[.val (.long p1), .second, .val (.long p2), .second, iv p3, iv p4, iv ln, iv (Int32.ofNat tn), iv of, rv b10, .unset, .unset, .unset] [(.int (Int32.ofNat tn)), (.int 4), (.int of), (.ref b10)]))
                    refine Goes.on (fun t k => XS.lloadN X99.here hx rfl (hb hby at_323) rfl k) ?_
                    show Goes p e below QQ (T99.setTop (mkF m 324 #[.val (.long p1), .second, .val (.long p2), .second, iv p3, iv p4, iv ln, iv (Int32.ofNat tn), iv of, rv b10, .unset, .unset, .unset] [(.long p1), (.int (Int32.ofNat tn)), (.int 4), (.int of), (.ref b10)]))
                    obtain ⟨_, _, ⟨T104, L104, k104, n104⟩, -, X104, ⟨Lc104, hQ104, l104, y104, z104⟩, st104⟩ := Jvm.LawKit.callS X99 hx (y := (⟨"com/example/lendgate/lendgate/circulation/DecoderCountPinLaw", "put", "([BIIIJ)V"⟩ : MethodName)) hown (mvT hZ (hw _ (List.mem_of_getElem? (i := 6) rfl))) (mvT hZ (hw _ (List.mem_of_getElem? (i := 7) rfl))) (mvT hZ (hw _ (List.mem_of_getElem? (i := 4) rfl))) (mvT hZ (hw _ (List.mem_of_getElem? (i := 8) rfl))) (by decide) (backOf (W := 0) (rmPu l Z a0 hw [] b10 of (4 : Int32) (Int32.ofNat tn) p1 k10 (14 : Int32) vs4 T99.heap n0 (Nat.le_trans Z0 K102.1) V_103 g_b10 (own_in of hv4 (4 : Int32) (by decide)) (by rw [hl4]; exact own_lt of hv4 (4 : Int32) (by decide))) hZ (hw _ (List.mem_of_getElem? (i := 8) rfl)) (hw _ (List.mem_of_getElem? (i := 4) rfl)) (by decide) (by decide)) (g := (mkF m 324 #[.val (.long p1), .second, .val (.long p2), .second, iv p3, iv p4, iv ln, iv (Int32.ofNat tn), iv of, rv b10, .unset, .unset, .unset] [(.long p1), (.int (Int32.ofNat tn)), (.int 4), (.int of), (.ref b10)])) rfl (by rw [hml]; rfl) (argsL := [(.ref b10), (.int of), (.int 4), (.int (Int32.ofNat tn)), (.long p1)]) (rest := []) (lenOf pd_2 rfl) rfl (by show 2 * 0 + _ ≤ _; exact Nat.le_of_eq rfl) (hb hby at_324) (fun _ _ => ⟨rfl, rfl, (by decide : 1 + 0 ≤ _), (by decide : 14 + 0 ≤ _)⟩)
                    dsimp only [Pt.U, Pt.locs, Pt.cells, Pt.slots] at X104 l104 y104 z104 st104 hQ104
                    have l104 := l104.symm; have y104 := y104.symm; have z104 := z104.symm; subst l104 y104 z104
                    have X104 : Stand p l e room_1 s m #[(.long p1), (.long p2), (.int p3), (.int p4)] below meth c T104 _ 1 14 := X104
                    obtain ⟨rfl, M104, Kp4, Vp4⟩ := hQ104
                    have N104 := Fr.app N99 M104
                    refine Goes.on (fun t k => st104 _ k) ?_
                    have O_105 := O_100.keep Kp4 (allS g_b10 all0)
                    have K107 := K102.trans Kp4 (allS (Or.inr sz_b10) all0)
                    show Goes p e below QQ (T104.setTop (mkF m 327 #[.val (.long p1), .second, .val (.long p2), .second, iv p3, iv p4, iv ln, iv (Int32.ofNat tn), iv of, rv b10, .unset, .unset, .unset] []))
                    obtain ⟨vs5, hvs5⟩ : ∃ z : List Value, z = (putL of (4 : Int32) (Int32.ofNat tn) p1 vs4) := ⟨_, rfl⟩
                    have V_108 := Vp4
                    rw [← hvs5] at V_108
                    have hl5 : vs5.length = 14 := by rw [hvs5, own_putlen]; exact hl4
                    show Goes p e below QQ (T104.setTop (mkF m 327 #[.val (.long p1), .second, .val (.long p2), .second, iv p3, iv p4, iv ln, iv (Int32.ofNat tn), iv of, rv b10, .unset, .unset, .unset] []))
                    refine Goes.on (fun t k => XS.aload X104.here hx rfl (hb hby at_327) rfl rfl k) ?_
                    show Goes p e below QQ (T104.setTop (mkF m 329 #[.val (.long p1), .second, .val (.long p2), .second, iv p3, iv p4, iv ln, iv (Int32.ofNat tn), iv of, rv b10, .unset, .unset, .unset] [(.ref b10)]))
                    refine Goes.on (fun t k => XS.iload X104.here hx rfl (hb hby at_329) rfl k) ?_
                    show Goes p e below QQ (T104.setTop (mkF m 331 #[.val (.long p1), .second, .val (.long p2), .second, iv p3, iv p4, iv ln, iv (Int32.ofNat tn), iv of, rv b10, .unset, .unset, .unset] [(.int of), (.ref b10)]))
                    refine Goes.on (fun t k => XS.iconst X104.here hx rfl (hb hby at_331) k) ?_
                    show Goes p e below QQ (T104.setTop (mkF m 332 #[.val (.long p1), .second, .val (.long p2), .second, iv p3, iv p4, iv ln, iv (Int32.ofNat tn), iv of, rv b10, .unset, .unset, .unset] [(.int 5), (.int of), (.ref b10)]))
                    refine Goes.on (fun t k => XS.iload X104.here hx rfl (hb hby at_332) rfl k) ?_
                    show Goes p e below QQ (T104.setTop (mkF m 334 #[.val (.long p1), .second, .val (.long p2), .second, iv p3, iv p4, iv ln, iv (Int32.ofNat tn), iv of, rv b10, .unset, .unset, .unset] [(.int (Int32.ofNat tn)), (.int 5), (.int of), (.ref b10)]))
                    refine Goes.on (fun t k => XS.lloadN X104.here hx rfl (hb hby at_334) rfl k) ?_
                    show Goes p e below QQ (T104.setTop (mkF m 335 #[.val (.long p1), .second, .val (.long p2), .second, iv p3, iv p4, iv ln, iv (Int32.ofNat tn), iv of, rv b10, .unset, .unset, .unset] [(.long p1), (.int (Int32.ofNat tn)), (.int 5), (.int of), (.ref b10)]))
                    obtain ⟨_, _, ⟨T109, L109, k109, n109⟩, -, X109, ⟨Lc109, hQ109, l109, y109, z109⟩, st109⟩ := Jvm.LawKit.callS X104 hx (y := (⟨"com/example/lendgate/lendgate/circulation/DecoderCountPinLaw", "put", "([BIIIJ)V"⟩ : MethodName)) hown (mvT hZ (hw _ (List.mem_of_getElem? (i := 6) rfl))) (mvT hZ (hw _ (List.mem_of_getElem? (i := 7) rfl))) (mvT hZ (hw _ (List.mem_of_getElem? (i := 4) rfl))) (mvT hZ (hw _ (List.mem_of_getElem? (i := 8) rfl))) (by decide) (backOf (W := 0) (rmPu l Z a0 hw [] b10 of (5 : Int32) (Int32.ofNat tn) p1 k10 (14 : Int32) vs5 T104.heap n0 (Nat.le_trans Z0 K107.1) V_108 g_b10 (own_in of hv4 (5 : Int32) (by decide)) (by rw [hl5]; exact own_lt of hv4 (5 : Int32) (by decide))) hZ (hw _ (List.mem_of_getElem? (i := 8) rfl)) (hw _ (List.mem_of_getElem? (i := 4) rfl)) (by decide) (by decide)) (g := (mkF m 335 #[.val (.long p1), .second, .val (.long p2), .second, iv p3, iv p4, iv ln, iv (Int32.ofNat tn), iv of, rv b10, .unset, .unset, .unset] [(.long p1), (.int (Int32.ofNat tn)), (.int 5), (.int of), (.ref b10)])) rfl (by rw [hml]; rfl) (argsL := [(.ref b10), (.int of), (.int 5), (.int (Int32.ofNat tn)), (.long p1)]) (rest := []) (lenOf pd_2 rfl) rfl (by show 2 * 0 + _ ≤ _; exact Nat.le_of_eq rfl) (hb hby at_335) (fun _ _ => ⟨rfl, rfl, (by decide : 1 + 0 ≤ _), (by decide : 14 + 0 ≤ _)⟩)
                    dsimp only [Pt.U, Pt.locs, Pt.cells, Pt.slots] at X109 l109 y109 z109 st109 hQ109
                    have l109 := l109.symm; have y109 := y109.symm; have z109 := z109.symm; subst l109 y109 z109
                    have X109 : Stand p l e room_1 s m #[(.long p1), (.long p2), (.int p3), (.int p4)] below meth c T109 _ 1 14 := X109
                    obtain ⟨rfl, M109, Kp5, Vp5⟩ := hQ109
                    have N109 := Fr.app N104 M109
                    refine Goes.on (fun t k => st109 _ k) ?_
                    have O_110 := O_105.keep Kp5 (allS g_b10 all0)
                    have K112 := K107.trans Kp5 (allS (Or.inr sz_b10) all0)
                    show Goes p e below QQ (T109.setTop (mkF m 338 #[.val (.long p1), .second, .val (.long p2), .second, iv p3, iv p4, iv ln, iv (Int32.ofNat tn), iv of, rv b10, .unset, .unset, .unset] []))
                    obtain ⟨vs6, hvs6⟩ : ∃ z : List Value, z = (putL of (5 : Int32) (Int32.ofNat tn) p1 vs5) := ⟨_, rfl⟩
                    have V_113 := Vp5
                    rw [← hvs6] at V_113
                    have hl6 : vs6.length = 14 := by rw [hvs6, own_putlen]; exact hl5
                    show Goes p e below QQ (T109.setTop (mkF m 338 #[.val (.long p1), .second, .val (.long p2), .second, iv p3, iv p4, iv ln, iv (Int32.ofNat tn), iv of, rv b10, .unset, .unset, .unset] []))
                    refine Goes.on (fun t k => XS.aload X109.here hx rfl (hb hby at_338) rfl rfl k) ?_
                    show Goes p e below QQ (T109.setTop (mkF m 340 #[.val (.long p1), .second, .val (.long p2), .second, iv p3, iv p4, iv ln, iv (Int32.ofNat tn), iv of, rv b10, .unset, .unset, .unset] [(.ref b10)]))
                    refine Goes.on (fun t k => XS.iload X109.here hx rfl (hb hby at_340) rfl k) ?_
                    show Goes p e below QQ (T109.setTop (mkF m 342 #[.val (.long p1), .second, .val (.long p2), .second, iv p3, iv p4, iv ln, iv (Int32.ofNat tn), iv of, rv b10, .unset, .unset, .unset] [(.int of), (.ref b10)]))
                    refine Goes.on (fun t k => XS.bipush X109.here hx rfl (hb hby at_342) k) ?_
                    show Goes p e below QQ (T109.setTop (mkF m 344 #[.val (.long p1), .second, .val (.long p2), .second, iv p3, iv p4, iv ln, iv (Int32.ofNat tn), iv of, rv b10, .unset, .unset, .unset] [(.int 6), (.int of), (.ref b10)]))
                    refine Goes.on (fun t k => XS.iload X109.here hx rfl (hb hby at_344) rfl k) ?_
                    show Goes p e below QQ (T109.setTop (mkF m 346 #[.val (.long p1), .second, .val (.long p2), .second, iv p3, iv p4, iv ln, iv (Int32.ofNat tn), iv of, rv b10, .unset, .unset, .unset] [(.int (Int32.ofNat tn)), (.int 6), (.int of), (.ref b10)]))
                    refine Goes.on (fun t k => XS.lloadN X109.here hx rfl (hb hby at_346) rfl k) ?_
                    show Goes p e below QQ (T109.setTop (mkF m 347 #[.val (.long p1), .second, .val (.long p2), .second, iv p3, iv p4, iv ln, iv (Int32.ofNat tn), iv of, rv b10, .unset, .unset, .unset] [(.long p1), (.int (Int32.ofNat tn)), (.int 6), (.int of), (.ref b10)]))
                    obtain ⟨_, _, ⟨T114, L114, k114, n114⟩, -, X114, ⟨Lc114, hQ114, l114, y114, z114⟩, st114⟩ := Jvm.LawKit.callS X109 hx (y := (⟨"com/example/lendgate/lendgate/circulation/DecoderCountPinLaw", "put", "([BIIIJ)V"⟩ : MethodName)) hown (mvT hZ (hw _ (List.mem_of_getElem? (i := 6) rfl))) (mvT hZ (hw _ (List.mem_of_getElem? (i := 7) rfl))) (mvT hZ (hw _ (List.mem_of_getElem? (i := 4) rfl))) (mvT hZ (hw _ (List.mem_of_getElem? (i := 8) rfl))) (by decide) (backOf (W := 0) (rmPu l Z a0 hw [] b10 of (6 : Int32) (Int32.ofNat tn) p1 k10 (14 : Int32) vs6 T109.heap n0 (Nat.le_trans Z0 K112.1) V_113 g_b10 (own_in of hv4 (6 : Int32) (by decide)) (by rw [hl6]; exact own_lt of hv4 (6 : Int32) (by decide))) hZ (hw _ (List.mem_of_getElem? (i := 8) rfl)) (hw _ (List.mem_of_getElem? (i := 4) rfl)) (by decide) (by decide)) (g := (mkF m 347 #[.val (.long p1), .second, .val (.long p2), .second, iv p3, iv p4, iv ln, iv (Int32.ofNat tn), iv of, rv b10, .unset, .unset, .unset] [(.long p1), (.int (Int32.ofNat tn)), (.int 6), (.int of), (.ref b10)])) rfl (by rw [hml]; rfl) (argsL := [(.ref b10), (.int of), (.int 6), (.int (Int32.ofNat tn)), (.long p1)]) (rest := []) (lenOf pd_2 rfl) rfl (by show 2 * 0 + _ ≤ _; exact Nat.le_of_eq rfl) (hb hby at_347) (fun _ _ => ⟨rfl, rfl, (by decide : 1 + 0 ≤ _), (by decide : 14 + 0 ≤ _)⟩)
                    dsimp only [Pt.U, Pt.locs, Pt.cells, Pt.slots] at X114 l114 y114 z114 st114 hQ114
                    have l114 := l114.symm; have y114 := y114.symm; have z114 := z114.symm; subst l114 y114 z114
                    have X114 : Stand p l e room_1 s m #[(.long p1), (.long p2), (.int p3), (.int p4)] below meth c T114 _ 1 14 := X114
                    obtain ⟨rfl, M114, Kp6, Vp6⟩ := hQ114
                    have N114 := Fr.app N109 M114
                    refine Goes.on (fun t k => st114 _ k) ?_
                    have O_115 := O_110.keep Kp6 (allS g_b10 all0)
                    have K117 := K112.trans Kp6 (allS (Or.inr sz_b10) all0)
                    show Goes p e below QQ (T114.setTop (mkF m 350 #[.val (.long p1), .second, .val (.long p2), .second, iv p3, iv p4, iv ln, iv (Int32.ofNat tn), iv of, rv b10, .unset, .unset, .unset] []))
                    obtain ⟨vs7, hvs7⟩ : ∃ z : List Value, z = (putL of (6 : Int32) (Int32.ofNat tn) p1 vs6) := ⟨_, rfl⟩
                    have V_118 := Vp6
                    rw [← hvs7] at V_118
                    have hl7 : vs7.length = 14 := by rw [hvs7, own_putlen]; exact hl6
                    show Goes p e below QQ (T114.setTop (mkF m 350 #[.val (.long p1), .second, .val (.long p2), .second, iv p3, iv p4, iv ln, iv (Int32.ofNat tn), iv of, rv b10, .unset, .unset, .unset] []))
                    refine Goes.on (fun t k => XS.aload X114.here hx rfl (hb hby at_350) rfl rfl k) ?_
                    show Goes p e below QQ (T114.setTop (mkF m 352 #[.val (.long p1), .second, .val (.long p2), .second, iv p3, iv p4, iv ln, iv (Int32.ofNat tn), iv of, rv b10, .unset, .unset, .unset] [(.ref b10)]))
                    refine Goes.on (fun t k => XS.iload X114.here hx rfl (hb hby at_352) rfl k) ?_
                    show Goes p e below QQ (T114.setTop (mkF m 354 #[.val (.long p1), .second, .val (.long p2), .second, iv p3, iv p4, iv ln, iv (Int32.ofNat tn), iv of, rv b10, .unset, .unset, .unset] [(.int of), (.ref b10)]))
                    refine Goes.on (fun t k => XS.bipush X114.here hx rfl (hb hby at_354) k) ?_
                    show Goes p e below QQ (T114.setTop (mkF m 356 #[.val (.long p1), .second, .val (.long p2), .second, iv p3, iv p4, iv ln, iv (Int32.ofNat tn), iv of, rv b10, .unset, .unset, .unset] [(.int 7), (.int of), (.ref b10)]))
                    refine Goes.on (fun t k => XS.iload X114.here hx rfl (hb hby at_356) rfl k) ?_
                    show Goes p e below QQ (T114.setTop (mkF m 358 #[.val (.long p1), .second, .val (.long p2), .second, iv p3, iv p4, iv ln, iv (Int32.ofNat tn), iv of, rv b10, .unset, .unset, .unset] [(.int (Int32.ofNat tn)), (.int 7), (.int of), (.ref b10)]))
                    refine Goes.on (fun t k => XS.lloadN X114.here hx rfl (hb hby at_358) rfl k) ?_
                    show Goes p e below QQ (T114.setTop (mkF m 359 #[.val (.long p1), .second, .val (.long p2), .second, iv p3, iv p4, iv ln, iv (Int32.ofNat tn), iv of, rv b10, .unset, .unset, .unset] [(.long p1), (.int (Int32.ofNat tn)), (.int 7), (.int of), (.ref b10)]))
                    obtain ⟨_, _, ⟨T119, L119, k119, n119⟩, -, X119, ⟨Lc119, hQ119, l119, y119, z119⟩, st119⟩ := Jvm.LawKit.callS X114 hx (y := (⟨"com/example/lendgate/lendgate/circulation/DecoderCountPinLaw", "put", "([BIIIJ)V"⟩ : MethodName)) hown (mvT hZ (hw _ (List.mem_of_getElem? (i := 6) rfl))) (mvT hZ (hw _ (List.mem_of_getElem? (i := 7) rfl))) (mvT hZ (hw _ (List.mem_of_getElem? (i := 4) rfl))) (mvT hZ (hw _ (List.mem_of_getElem? (i := 8) rfl))) (by decide) (backOf (W := 0) (rmPu l Z a0 hw [] b10 of (7 : Int32) (Int32.ofNat tn) p1 k10 (14 : Int32) vs7 T114.heap n0 (Nat.le_trans Z0 K117.1) V_118 g_b10 (own_in of hv4 (7 : Int32) (by decide)) (by rw [hl7]; exact own_lt of hv4 (7 : Int32) (by decide))) hZ (hw _ (List.mem_of_getElem? (i := 8) rfl)) (hw _ (List.mem_of_getElem? (i := 4) rfl)) (by decide) (by decide)) (g := (mkF m 359 #[.val (.long p1), .second, .val (.long p2), .second, iv p3, iv p4, iv ln, iv (Int32.ofNat tn), iv of, rv b10, .unset, .unset, .unset] [(.long p1), (.int (Int32.ofNat tn)), (.int 7), (.int of), (.ref b10)])) rfl (by rw [hml]; rfl) (argsL := [(.ref b10), (.int of), (.int 7), (.int (Int32.ofNat tn)), (.long p1)]) (rest := []) (lenOf pd_2 rfl) rfl (by show 2 * 0 + _ ≤ _; exact Nat.le_of_eq rfl) (hb hby at_359) (fun _ _ => ⟨rfl, rfl, (by decide : 1 + 0 ≤ _), (by decide : 14 + 0 ≤ _)⟩)
                    dsimp only [Pt.U, Pt.locs, Pt.cells, Pt.slots] at X119 l119 y119 z119 st119 hQ119
                    have l119 := l119.symm; have y119 := y119.symm; have z119 := z119.symm; subst l119 y119 z119
                    have X119 : Stand p l e room_1 s m #[(.long p1), (.long p2), (.int p3), (.int p4)] below meth c T119 _ 1 14 := X119
                    obtain ⟨rfl, M119, Kp7, Vp7⟩ := hQ119
                    have N119 := Fr.app N114 M119
                    refine Goes.on (fun t k => st119 _ k) ?_
                    have O_120 := O_115.keep Kp7 (allS g_b10 all0)
                    have K122 := K117.trans Kp7 (allS (Or.inr sz_b10) all0)
                    show Goes p e below QQ (T119.setTop (mkF m 362 #[.val (.long p1), .second, .val (.long p2), .second, iv p3, iv p4, iv ln, iv (Int32.ofNat tn), iv of, rv b10, .unset, .unset, .unset] []))
                    obtain ⟨vs8, hvs8⟩ : ∃ z : List Value, z = (putL of (7 : Int32) (Int32.ofNat tn) p1 vs7) := ⟨_, rfl⟩
                    have V_123 := Vp7
                    rw [← hvs8] at V_123
                    have hl8 : vs8.length = 14 := by rw [hvs8, own_putlen]; exact hl7
                    show Goes p e below QQ (T119.setTop (mkF m 362 #[.val (.long p1), .second, .val (.long p2), .second, iv p3, iv p4, iv ln, iv (Int32.ofNat tn), iv of, rv b10, .unset, .unset, .unset] []))
                    refine Goes.on (fun t k => XS.aload X119.here hx rfl (hb hby at_362) rfl rfl k) ?_
                    show Goes p e below QQ (T119.setTop (mkF m 364 #[.val (.long p1), .second, .val (.long p2), .second, iv p3, iv p4, iv ln, iv (Int32.ofNat tn), iv of, rv b10, .unset, .unset, .unset] [(.ref b10)]))
                    refine Goes.on (fun t k => XS.iload X119.here hx rfl (hb hby at_364) rfl k) ?_
                    show Goes p e below QQ (T119.setTop (mkF m 366 #[.val (.long p1), .second, .val (.long p2), .second, iv p3, iv p4, iv ln, iv (Int32.ofNat tn), iv of, rv b10, .unset, .unset, .unset] [(.int of), (.ref b10)]))
                    refine Goes.on (fun t k => XS.bipush X119.here hx rfl (hb hby at_366) k) ?_
                    show Goes p e below QQ (T119.setTop (mkF m 368 #[.val (.long p1), .second, .val (.long p2), .second, iv p3, iv p4, iv ln, iv (Int32.ofNat tn), iv of, rv b10, .unset, .unset, .unset] [(.int 8), (.int of), (.ref b10)]))
                    refine Goes.on (fun t k => XS.iload X119.here hx rfl (hb hby at_368) rfl k) ?_
                    show Goes p e below QQ (T119.setTop (mkF m 370 #[.val (.long p1), .second, .val (.long p2), .second, iv p3, iv p4, iv ln, iv (Int32.ofNat tn), iv of, rv b10, .unset, .unset, .unset] [(.int (Int32.ofNat tn)), (.int 8), (.int of), (.ref b10)]))
                    refine Goes.on (fun t k => XS.lloadN X119.here hx rfl (hb hby at_370) rfl k) ?_
                    show Goes p e below QQ (T119.setTop (mkF m 371 #[.val (.long p1), .second, .val (.long p2), .second, iv p3, iv p4, iv ln, iv (Int32.ofNat tn), iv of, rv b10, .unset, .unset, .unset] [(.long p1), (.int (Int32.ofNat tn)), (.int 8), (.int of), (.ref b10)]))
                    obtain ⟨_, _, ⟨T124, L124, k124, n124⟩, -, X124, ⟨Lc124, hQ124, l124, y124, z124⟩, st124⟩ := Jvm.LawKit.callS X119 hx (y := (⟨"com/example/lendgate/lendgate/circulation/DecoderCountPinLaw", "put", "([BIIIJ)V"⟩ : MethodName)) hown (mvT hZ (hw _ (List.mem_of_getElem? (i := 6) rfl))) (mvT hZ (hw _ (List.mem_of_getElem? (i := 7) rfl))) (mvT hZ (hw _ (List.mem_of_getElem? (i := 4) rfl))) (mvT hZ (hw _ (List.mem_of_getElem? (i := 8) rfl))) (by decide) (backOf (W := 0) (rmPu l Z a0 hw [] b10 of (8 : Int32) (Int32.ofNat tn) p1 k10 (14 : Int32) vs8 T119.heap n0 (Nat.le_trans Z0 K122.1) V_123 g_b10 (own_in of hv4 (8 : Int32) (by decide)) (by rw [hl8]; exact own_lt of hv4 (8 : Int32) (by decide))) hZ (hw _ (List.mem_of_getElem? (i := 8) rfl)) (hw _ (List.mem_of_getElem? (i := 4) rfl)) (by decide) (by decide)) (g := (mkF m 371 #[.val (.long p1), .second, .val (.long p2), .second, iv p3, iv p4, iv ln, iv (Int32.ofNat tn), iv of, rv b10, .unset, .unset, .unset] [(.long p1), (.int (Int32.ofNat tn)), (.int 8), (.int of), (.ref b10)])) rfl (by rw [hml]; rfl) (argsL := [(.ref b10), (.int of), (.int 8), (.int (Int32.ofNat tn)), (.long p1)]) (rest := []) (lenOf pd_2 rfl) rfl (by show 2 * 0 + _ ≤ _; exact Nat.le_of_eq rfl) (hb hby at_371) (fun _ _ => ⟨rfl, rfl, (by decide : 1 + 0 ≤ _), (by decide : 14 + 0 ≤ _)⟩)
                    dsimp only [Pt.U, Pt.locs, Pt.cells, Pt.slots] at X124 l124 y124 z124 st124 hQ124
                    have l124 := l124.symm; have y124 := y124.symm; have z124 := z124.symm; subst l124 y124 z124
                    have X124 : Stand p l e room_1 s m #[(.long p1), (.long p2), (.int p3), (.int p4)] below meth c T124 _ 1 14 := X124
                    obtain ⟨rfl, M124, Kp8, Vp8⟩ := hQ124
                    have N124 := Fr.app N119 M124
                    refine Goes.on (fun t k => st124 _ k) ?_
                    have O_125 := O_120.keep Kp8 (allS g_b10 all0)
                    have K127 := K122.trans Kp8 (allS (Or.inr sz_b10) all0)
                    show Goes p e below QQ (T124.setTop (mkF m 374 #[.val (.long p1), .second, .val (.long p2), .second, iv p3, iv p4, iv ln, iv (Int32.ofNat tn), iv of, rv b10, .unset, .unset, .unset] []))
                    obtain ⟨vs9, hvs9⟩ : ∃ z : List Value, z = (putL of (8 : Int32) (Int32.ofNat tn) p1 vs8) := ⟨_, rfl⟩
                    have V_128 := Vp8
                    rw [← hvs9] at V_128
                    have hl9 : vs9.length = 14 := by rw [hvs9, own_putlen]; exact hl8
                    show Goes p e below QQ (T124.setTop (mkF m 374 #[.val (.long p1), .second, .val (.long p2), .second, iv p3, iv p4, iv ln, iv (Int32.ofNat tn), iv of, rv b10, .unset, .unset, .unset] []))
                    refine Goes.on (fun t k => XS.aload X124.here hx rfl (hb hby at_374) rfl rfl k) ?_
                    show Goes p e below QQ (T124.setTop (mkF m 376 #[.val (.long p1), .second, .val (.long p2), .second, iv p3, iv p4, iv ln, iv (Int32.ofNat tn), iv of, rv b10, .unset, .unset, .unset] [(.ref b10)]))
                    refine Goes.on (fun t k => XS.iload X124.here hx rfl (hb hby at_376) rfl k) ?_
                    show Goes p e below QQ (T124.setTop (mkF m 378 #[.val (.long p1), .second, .val (.long p2), .second, iv p3, iv p4, iv ln, iv (Int32.ofNat tn), iv of, rv b10, .unset, .unset, .unset] [(.int of), (.ref b10)]))
                    refine Goes.on (fun t k => XS.bipush X124.here hx rfl (hb hby at_378) k) ?_
                    show Goes p e below QQ (T124.setTop (mkF m 380 #[.val (.long p1), .second, .val (.long p2), .second, iv p3, iv p4, iv ln, iv (Int32.ofNat tn), iv of, rv b10, .unset, .unset, .unset] [(.int 9), (.int of), (.ref b10)]))
                    refine Goes.on (fun t k => XS.iload X124.here hx rfl (hb hby at_380) rfl k) ?_
                    show Goes p e below QQ (T124.setTop (mkF m 382 #[.val (.long p1), .second, .val (.long p2), .second, iv p3, iv p4, iv ln, iv (Int32.ofNat tn), iv of, rv b10, .unset, .unset, .unset] [(.int (Int32.ofNat tn)), (.int 9), (.int of), (.ref b10)]))
                    refine Goes.on (fun t k => XS.lloadN X124.here hx rfl (hb hby at_382) rfl k) ?_
                    show Goes p e below QQ (T124.setTop (mkF m 383 #[.val (.long p1), .second, .val (.long p2), .second, iv p3, iv p4, iv ln, iv (Int32.ofNat tn), iv of, rv b10, .unset, .unset, .unset] [(.long p1), (.int (Int32.ofNat tn)), (.int 9), (.int of), (.ref b10)]))
                    obtain ⟨_, _, ⟨T129, L129, k129, n129⟩, -, X129, ⟨Lc129, hQ129, l129, y129, z129⟩, st129⟩ := Jvm.LawKit.callS X124 hx (y := (⟨"com/example/lendgate/lendgate/circulation/DecoderCountPinLaw", "put", "([BIIIJ)V"⟩ : MethodName)) hown (mvT hZ (hw _ (List.mem_of_getElem? (i := 6) rfl))) (mvT hZ (hw _ (List.mem_of_getElem? (i := 7) rfl))) (mvT hZ (hw _ (List.mem_of_getElem? (i := 4) rfl))) (mvT hZ (hw _ (List.mem_of_getElem? (i := 8) rfl))) (by decide) (backOf (W := 0) (rmPu l Z a0 hw [] b10 of (9 : Int32) (Int32.ofNat tn) p1 k10 (14 : Int32) vs9 T124.heap n0 (Nat.le_trans Z0 K127.1) V_128 g_b10 (own_in of hv4 (9 : Int32) (by decide)) (by rw [hl9]; exact own_lt of hv4 (9 : Int32) (by decide))) hZ (hw _ (List.mem_of_getElem? (i := 8) rfl)) (hw _ (List.mem_of_getElem? (i := 4) rfl)) (by decide) (by decide)) (g := (mkF m 383 #[.val (.long p1), .second, .val (.long p2), .second, iv p3, iv p4, iv ln, iv (Int32.ofNat tn), iv of, rv b10, .unset, .unset, .unset] [(.long p1), (.int (Int32.ofNat tn)), (.int 9), (.int of), (.ref b10)])) rfl (by rw [hml]; rfl) (argsL := [(.ref b10), (.int of), (.int 9), (.int (Int32.ofNat tn)), (.long p1)]) (rest := []) (lenOf pd_2 rfl) rfl (by show 2 * 0 + _ ≤ _; exact Nat.le_of_eq rfl) (hb hby at_383) (fun _ _ => ⟨rfl, rfl, (by decide : 1 + 0 ≤ _), (by decide : 14 + 0 ≤ _)⟩)
                    dsimp only [Pt.U, Pt.locs, Pt.cells, Pt.slots] at X129 l129 y129 z129 st129 hQ129
                    have l129 := l129.symm; have y129 := y129.symm; have z129 := z129.symm; subst l129 y129 z129
                    have X129 : Stand p l e room_1 s m #[(.long p1), (.long p2), (.int p3), (.int p4)] below meth c T129 _ 1 14 := X129
                    obtain ⟨rfl, M129, Kp9, Vp9⟩ := hQ129
                    have N129 := Fr.app N124 M129
                    refine Goes.on (fun t k => st129 _ k) ?_
                    have O_130 := O_125.keep Kp9 (allS g_b10 all0)
                    have K132 := K127.trans Kp9 (allS (Or.inr sz_b10) all0)
                    show Goes p e below QQ (T129.setTop (mkF m 386 #[.val (.long p1), .second, .val (.long p2), .second, iv p3, iv p4, iv ln, iv (Int32.ofNat tn), iv of, rv b10, .unset, .unset, .unset] []))
                    obtain ⟨vs10, hvs10⟩ : ∃ z : List Value, z = (putL of (9 : Int32) (Int32.ofNat tn) p1 vs9) := ⟨_, rfl⟩
                    have V_133 := Vp9
                    rw [← hvs10] at V_133
                    have hl10 : vs10.length = 14 := by rw [hvs10, own_putlen]; exact hl9
                    show Goes p e below QQ (T129.setTop (mkF m 386 #[.val (.long p1), .second, .val (.long p2), .second, iv p3, iv p4, iv ln, iv (Int32.ofNat tn), iv of, rv b10, .unset, .unset, .unset] []))
                    obtain ⟨T134, h134, X134, e134, E134, A134, D134, -, st134⟩ := newO X129 hx hZ hown (hw _ (List.mem_of_getElem? (i := 10) rfl)) (hw _ (List.mem_of_getElem? (i := 11) rfl)) (hw _ (List.mem_of_getElem? (i := 12) rfl)) rfl (g := (mkF m 386 #[.val (.long p1), .second, .val (.long p2), .second, iv p3, iv p4, iv ln, iv (Int32.ofNat tn), iv of, rv b10, .unset, .unset, .unset] [])) rfl (hb hby at_386) (by decide) (by decide)
                    obtain ⟨b134, g134⟩ : ∃ z, z = T129.heap.size := ⟨_, rfl⟩
                    rw [← g134] at A134 D134 st134
                    have sz_b134 : h0.size ≤ b134 := Nat.le_trans K132.1 (Nat.le_of_eq g134.symm)
                    have g_b134 : n0 ≤ b134 := Nat.le_trans Z0 sz_b134
                    have ne_b10_b134 : b10 ≠ b134 := Nat.ne_of_lt (Nat.lt_of_lt_of_le V_133.lt (Nat.le_of_eq g134.symm))
                    have O_135 := O_130.ext E134
                    have V_136 := V_133.ext E134
                    have K134 := K132.ext E134
                    have X134 : Stand p l e room_1 s m #[(.long p1), (.long p2), (.int p3), (.int p4)] below meth c T134 _ 2 17 := X134
                    have F_137 : Fld Z h134 b134 "com/example/lendgate/lendgate/circulation/Decoder" "symbols" "Lcom/example/lendgate/lendgate/circulation/Symbols;" .null := D134 (Or.inr (hw _ (List.mem_of_getElem? (i := 71) rfl))) (ty := (.object "com/example/lendgate/lendgate/circulation/Symbols")) (by decide)
                    have F_138 : Fld Z h134 b134 "com/example/lendgate/lendgate/circulation/Decoder" "bytes" "[B" .null := D134 (Or.inr (hw _ (List.mem_of_getElem? (i := 73) rfl))) (ty := (.array .byte)) (by decide)
                    have F_139 : Fld Z h134 b134 "com/example/lendgate/lendgate/circulation/Decoder" "position" "I" (.int 0) := D134 (Or.inl (hw _ (List.mem_of_getElem? (i := 75) rfl))) (ty := .int) (by decide)
                    refine Goes.on (fun t k => st134 t k) ?_
                    show Goes p e below QQ (T134.setTop (mkF m 389 #[.val (.long p1), .second, .val (.long p2), .second, iv p3, iv p4, iv ln, iv (Int32.ofNat tn), iv of, rv b10, .unset, .unset, .unset] [(.ref b134)]))
                    refine Goes.on (fun t k => XS.dup X134.here hx rfl (hb hby at_389) rfl rfl k) ?_
                    show Goes p e below QQ (T134.setTop (mkF m 390 #[.val (.long p1), .second, .val (.long p2), .second, iv p3, iv p4, iv ln, iv (Int32.ofNat tn), iv of, rv b10, .unset, .unset, .unset] [(.ref b134), (.ref b134)]))
                    obtain ⟨T140, h140, X140, e140, E140, A140, D140, -, st140⟩ := newO X134 hx hZ hown (hw _ (List.mem_of_getElem? (i := 13) rfl)) (hw _ (List.mem_of_getElem? (i := 14) rfl)) (hw _ (List.mem_of_getElem? (i := 15) rfl)) e134 (g := (mkF m 390 #[.val (.long p1), .second, .val (.long p2), .second, iv p3, iv p4, iv ln, iv (Int32.ofNat tn), iv of, rv b10, .unset, .unset, .unset] [(.ref b134), (.ref b134)])) rfl (hb hby at_390) (by decide) (by decide)
                    obtain ⟨b140, g140⟩ : ∃ z, z = h134.size := ⟨_, rfl⟩
                    rw [← g140] at A140 D140 st140
                    have sz_b140 : h0.size ≤ b140 := Nat.le_trans K134.1 (Nat.le_of_eq g140.symm)
                    have g_b140 : n0 ≤ b140 := Nat.le_trans Z0 sz_b140
                    have ne_b10_b140 : b10 ≠ b140 := Nat.ne_of_lt (Nat.lt_of_lt_of_le V_136.lt (Nat.le_of_eq g140.symm))
                    have ne_b134_b140 : b134 ≠ b140 := Nat.ne_of_lt (Nat.lt_of_lt_of_le A134.lt (Nat.le_of_eq g140.symm))
                    have O_141 := O_135.ext E140
                    have V_142 := V_136.ext E140
                    have A134_143 := A134.ext E140
                    have F_144 := F_137.ext E140
                    have F_145 := F_138.ext E140
                    have F_146 := F_139.ext E140
                    have K140 := K134.ext E140
                    have X140 : Stand p l e room_1 s m #[(.long p1), (.long p2), (.int p3), (.int p4)] below meth c T140 _ 3 19 := X140
                    have F_147 : Fld Z h140 b140 "com/example/lendgate/lendgate/circulation/Symbols" "texts" "Ljava/util/List;" .null := D140 (Or.inr (hw _ (List.mem_of_getElem? (i := 47) rfl))) (ty := (.object "java/util/List")) (by decide)
                    have F_148 : Fld Z h140 b140 "com/example/lendgate/lendgate/circulation/Symbols" "numbers" "Ljava/util/Map;" .null := D140 (Or.inr (hw _ (List.mem_of_getElem? (i := 65) rfl))) (ty := (.object "java/util/Map")) (by decide)
                    refine Goes.on (fun t k => st140 t k) ?_
                    show Goes p e below QQ (T140.setTop (mkF m 393 #[.val (.long p1), .second, .val (.long p2), .second, iv p3, iv p4, iv ln, iv (Int32.ofNat tn), iv of, rv b10, .unset, .unset, .unset] [(.ref b140), (.ref b134), (.ref b134)]))
                    refine Goes.on (fun t k => XS.dup X140.here hx rfl (hb hby at_393) rfl rfl k) ?_
                    show Goes p e below QQ (T140.setTop (mkF m 394 #[.val (.long p1), .second, .val (.long p2), .second, iv p3, iv p4, iv ln, iv (Int32.ofNat tn), iv of, rv b10, .unset, .unset, .unset] [(.ref b140), (.ref b140), (.ref b134), (.ref b134)]))
                    obtain ⟨_, _, ⟨T149, L149, k149, n149⟩, -, X149, ⟨Lc149, hQ149, l149, y149, z149⟩, st149⟩ := X140.specialBack hx (y := (⟨"com/example/lendgate/lendgate/circulation/Symbols", "<init>", "()V"⟩ : MethodName)) rfl hown (mvT hZ (hw _ (List.mem_of_getElem? (i := 16) rfl))) (mvT hZ (hw _ (List.mem_of_getElem? (i := 17) rfl))) (mvT hZ (hw _ (List.mem_of_getElem? (i := 18) rfl))) (by decide) (backOf (W := 3) (rmSy l Z a0 hw [] b140 xD h140 n0 (Nat.le_trans Z0 K140.1) A140 F_147 F_148 g_b140 S_DEFAULTCAPACITY_EMPTY_ELEMENTDATA O_141) hZ (hw _ (List.mem_of_getElem? (i := 18) rfl)) (hw _ (List.mem_of_getElem? (i := 15) rfl)) (by decide) (by decide)) (g := (mkF m 394 #[.val (.long p1), .second, .val (.long p2), .second, iv p3, iv p4, iv ln, iv (Int32.ofNat tn), iv of, rv b10, .unset, .unset, .unset] [(.ref b140), (.ref b140), (.ref b134), (.ref b134)])) rfl (by rw [hml]; rfl) (Steps.refl _) (a := b140) (argsL := []) (rest := [(.ref b140), (.ref b134), (.ref b134)]) (lenOf pd_0 rfl) rfl (by show 2 * 0 + _ ≤ _; exact Nat.le_of_eq rfl) (hb hby at_394) (fun _ _ => ⟨rfl, e140, (by decide : 3 + 2 ≤ _), (by decide : 19 + 11 ≤ _)⟩)
                    dsimp only [Pt.U, Pt.locs, Pt.cells, Pt.slots] at X149 l149 y149 z149 st149 hQ149
                    have l149 := l149.symm; have y149 := y149.symm; have z149 := z149.symm; subst l149 y149 z149
                    have X149 : Stand p l e room_1 s m #[(.long p1), (.long p2), (.int p3), (.int p4)] below meth c T149 _ 5 30 := X149
                    obtain ⟨rfl, M149, Ky⟩ := hQ149
                    have N149 := Fr.app N129 M149
                    refine Goes.on (fun t k => st149.trans k) ?_
                    have O_150 := O_141.keep Ky (allS g_b140 all0)
                    have V_151 := V_142.keep Ky (ninS ne_b10_b140 nin0)
                    have A134_152 := A134_143.keep Ky
                    have F_153 := F_144.keep Ky (ninS ne_b134_b140 nin0)
                    have F_154 := F_145.keep Ky (ninS ne_b134_b140 nin0)
                    have F_155 := F_146.keep Ky (ninS ne_b134_b140 nin0)
                    have A140_156 := A140.keep Ky
                    have K159 := K140.trans Ky (allS (Or.inr sz_b140) all0)
                    show Goes p e below QQ (T149.setTop (mkF m 397 #[.val (.long p1), .second, .val (.long p2), .second, iv p3, iv p4, iv ln, iv (Int32.ofNat tn), iv of, rv b10, .unset, .unset, .unset] [(.ref b140), (.ref b134), (.ref b134)]))
                    refine Goes.on (fun t k => XS.aload X149.here hx rfl (hb hby at_397) rfl rfl k) ?_
                    show Goes p e below QQ (T149.setTop (mkF m 399 #[.val (.long p1), .second, .val (.long p2), .second, iv p3, iv p4, iv ln, iv (Int32.ofNat tn), iv of, rv b10, .unset, .unset, .unset] [(.ref b10), (.ref b140), (.ref b134), (.ref b134)]))
                    refine Goes.on (fun t k => XS.iload X149.here hx rfl (hb hby at_399) rfl k) ?_
                    show Goes p e below QQ (T149.setTop (mkF m 401 #[.val (.long p1), .second, .val (.long p2), .second, iv p3, iv p4, iv ln, iv (Int32.ofNat tn), iv of, rv b10, .unset, .unset, .unset] [(.int of), (.ref b10), (.ref b140), (.ref b134), (.ref b134)]))
                    obtain ⟨_, _, ⟨T160, L160, k160, n160⟩, -, X160, ⟨Lc160, hQ160, l160, y160, z160⟩, st160⟩ := X149.specialBack hx (y := (⟨"com/example/lendgate/lendgate/circulation/Decoder", "<init>", "(Lcom/example/lendgate/lendgate/circulation/Symbols;[BI)V"⟩ : MethodName)) rfl hown (mvT hZ (hw _ (List.mem_of_getElem? (i := 66) rfl))) (mvT hZ (hw _ (List.mem_of_getElem? (i := 67) rfl))) (mvT hZ (hw _ (List.mem_of_getElem? (i := 68) rfl))) (by decide) (backOf (W := 1) (rmDi l Z a0 hw [] b134 b140 b10 of T149.heap n0 (Nat.le_trans Z0 K159.1) A134_152 F_153 F_154 F_155 g_b134) hZ (hw _ (List.mem_of_getElem? (i := 68) rfl)) (hw _ (List.mem_of_getElem? (i := 12) rfl)) (by decide) (by decide)) (g := (mkF m 401 #[.val (.long p1), .second, .val (.long p2), .second, iv p3, iv p4, iv ln, iv (Int32.ofNat tn), iv of, rv b10, .unset, .unset, .unset] [(.int of), (.ref b10), (.ref b140), (.ref b134), (.ref b134)])) rfl (by rw [hml]; rfl) (Steps.refl _) (a := b134) (argsL := [(.ref b140), (.ref b10), (.int of)]) (rest := [(.ref b134)]) (lenOf pd_3 rfl) rfl (by show 2 * 0 + _ ≤ _; exact Nat.le_of_eq rfl) (hb hby at_401) (fun _ _ => ⟨rfl, rfl, (by decide : 5 + 0 ≤ _), (by decide : 30 + 0 ≤ _)⟩)
                    dsimp only [Pt.U, Pt.locs, Pt.cells, Pt.slots] at X160 l160 y160 z160 st160 hQ160
                    have l160 := l160.symm; have y160 := y160.symm; have z160 := z160.symm; subst l160 y160 z160
                    have X160 : Stand p l e room_1 s m #[(.long p1), (.long p2), (.int p3), (.int p4)] below meth c T160 _ 5 30 := X160
                    obtain ⟨rfl, M160, Kd, Fb, Fp⟩ := hQ160
                    have N160 := Fr.app N149 M160
                    refine Goes.on (fun t k => st160.trans k) ?_
                    have O_161 := O_150.keep Kd (allS g_b134 all0)
                    have V_162 := V_151.keep Kd (ninS ne_b10_b134 nin0)
                    have A134_163 := A134_152.keep Kd
                    have A140_167 := A140_156.keep Kd
                    have K168 := K159.trans Kd (allS (Or.inr sz_b134) all0)
                    show Goes p e below QQ (T160.setTop (mkF m 404 #[.val (.long p1), .second, .val (.long p2), .second, iv p3, iv p4, iv ln, iv (Int32.ofNat tn), iv of, rv b10, .unset, .unset, .unset] [(.ref b134)]))
                    refine Goes.on (fun t k => XS.astore X160.here hx rfl (hb hby at_404) rfl rfl (l' := #[.val (.long p1), .second, .val (.long p2), .second, iv p3, iv p4, iv ln, iv (Int32.ofNat tn), iv of, rv b10, rv b134, .unset, .unset]) rfl k) ?_
                    show Goes p e below QQ (T160.setTop (mkF m 406 #[.val (.long p1), .second, .val (.long p2), .second, iv p3, iv p4, iv ln, iv (Int32.ofNat tn), iv of, rv b10, rv b134, .unset, .unset] []))
                    refine Goes.on (fun t k => XS.aload X160.here hx rfl (hb hby at_406) rfl rfl k) ?_
                    show Goes p e below QQ (T160.setTop (mkF m 408 #[.val (.long p1), .second, .val (.long p2), .second, iv p3, iv p4, iv ln, iv (Int32.ofNat tn), iv of, rv b10, rv b134, .unset, .unset] [(.ref b134)]))
                    have Y0 : Byt vs10 tn 0 of (bsF p1 tn 0) := own_byt0 of hv4 tn p1 ht2 hl0 hvs1 hvs2 hvs3 hvs4 hvs5 hvs6 hvs7 hvs8 hvs9 hvs10
                    have Y1 : Byt vs10 tn 1 (of + (1 : Int32)) (bsF p1 tn 1) := own_byt1 of hv4 tn p1 ht2 hl1 hvs2 hvs3 hvs4 hvs5 hvs6 hvs7 hvs8 hvs9 hvs10
                    have Y2 : Byt vs10 tn 2 (of + (2 : Int32)) (bsF p1 tn 2) := own_byt2 of hv4 tn p1 ht2 hl2 hvs3 hvs4 hvs5 hvs6 hvs7 hvs8 hvs9 hvs10
                    have Y3 : Byt vs10 tn 3 (of + (3 : Int32)) (bsF p1 tn 3) := own_byt3 of hv4 tn p1 ht2 hl3 hvs4 hvs5 hvs6 hvs7 hvs8 hvs9 hvs10
                    have Y4 : Byt vs10 tn 4 (of + (4 : Int32)) (bsF p1 tn 4) := own_byt4 of hv4 tn p1 ht2 hl4 hvs5 hvs6 hvs7 hvs8 hvs9 hvs10
                    have Y5 : Byt vs10 tn 5 (of + (5 : Int32)) (bsF p1 tn 5) := own_byt5 of hv4 tn p1 ht2 hl5 hvs6 hvs7 hvs8 hvs9 hvs10
                    have Y6 : Byt vs10 tn 6 (of + (6 : Int32)) (bsF p1 tn 6) := own_byt6 of hv4 tn p1 ht2 hl6 hvs7 hvs8 hvs9 hvs10
                    have Y7 : Byt vs10 tn 7 (of + (7 : Int32)) (bsF p1 tn 7) := own_byt7 of hv4 tn p1 ht2 hl7 hvs8 hvs9 hvs10
                    have Y8 : Byt vs10 tn 8 (of + (8 : Int32)) (bsF p1 tn 8) := own_byt8 of hv4 tn p1 ht2 hl8 hvs9 hvs10
                    have Y9 : Byt vs10 tn 9 (of + (9 : Int32)) (bsF p1 tn 9) := own_byt9 of hv4 tn p1 ht2 hl9 hvs10
                    obtain ⟨cq169, kq169, q169a, q169b, q169c⟩ := isOf hZ rfl A134_163
                    obtain ⟨_, _, ⟨T169, L169, k169, n169⟩, -, X169, ⟨Lc169, hQ169, l169, y169, z169⟩, st169⟩ := X160.virtualBack hx (y := (⟨"com/example/lendgate/lendgate/circulation/Decoder", "count", "()J"⟩ : MethodName)) (z := (⟨"com/example/lendgate/lendgate/circulation/Decoder", "count", "()J"⟩ : MethodName)) hown (mvT hZ (hw _ (List.mem_of_getElem? (i := 76) rfl))) (mvT hZ (hw _ (List.mem_of_getElem? (i := 77) rfl))) (notFace_of_selects (args := #[]) (mvT hZ (hw _ (List.mem_of_getElem? (i := 79) rfl)))) (mvT hZ (hw _ (List.mem_of_getElem? (i := 79) rfl))) (mvT hZ (hw _ (List.mem_of_getElem? (i := 78) rfl))) (by decide) (backOf (W := 0) (rmCo l Z a0 hw [] b134 b10 of k10 vs10 (bsF p1 tn) tn T160.heap n0 (Nat.le_trans Z0 K168.1) A134_163 Fb Fp V_162 g_b134 ne_b10_b134 ht1 ht2 Y0 Y1 Y2 Y3 Y4 Y5 Y6 Y7 Y8 Y9) hZ (hw _ (List.mem_of_getElem? (i := 80) rfl)) (hw _ (List.mem_of_getElem? (i := 12) rfl)) (by decide) (by decide)) q169a q169c (g := (mkF m 408 #[.val (.long p1), .second, .val (.long p2), .second, iv p3, iv p4, iv ln, iv (Int32.ofNat tn), iv of, rv b10, rv b134, .unset, .unset] [(.ref b134)])) rfl (by rw [hml]; rfl) (Steps.refl _) (argsL := []) (rest := []) (lenOf pd_4 rfl) rfl (by show 2 * 0 + _ ≤ _; exact Nat.le_of_eq rfl) (hb hby at_408) (fun _ _ => ⟨rfl, rfl, (by decide : 5 + 0 ≤ _), (by decide : 30 + 0 ≤ _)⟩)
                    dsimp only [Pt.U, Pt.locs, Pt.cells, Pt.slots] at X169 l169 y169 z169 st169 hQ169
                    have l169 := l169.symm; have y169 := y169.symm; have z169 := z169.symm; subst l169 y169 z169
                    have X169 : Stand p l e room_1 s m #[(.long p1), (.long p2), (.int p3), (.int p4)] below meth c T169 _ 5 30 := X169
                    obtain ⟨rfl, M169, Ke, Fe⟩ := hQ169
                    have N169 := Fr.app N160 M169
                    refine Goes.on (fun t k => st169.trans k) ?_
                    have O_170 := O_161.keep Ke (allS g_b134 all0)
                    have V_171 := V_162.keep Ke (ninS ne_b10_b134 nin0)
                    have A134_172 := A134_163.keep Ke
                    have A140_173 := A140_167.keep Ke
                    have K176 := K168.trans Ke (allS (Or.inr sz_b134) all0)
                    show Goes p e below QQ (T169.setTop (mkF m 411 #[.val (.long p1), .second, .val (.long p2), .second, iv p3, iv p4, iv ln, iv (Int32.ofNat tn), iv of, rv b10, rv b134, .unset, .unset] [(.long (accF (bsF p1 tn) tn))]))
                    refine Goes.on (fun t k => XS.lstore X169.here hx rfl (hb hby at_411) rfl (l' := #[.val (.long p1), .second, .val (.long p2), .second, iv p3, iv p4, iv ln, iv (Int32.ofNat tn), iv of, rv b10, rv b134, .val (.long (accF (bsF p1 tn) tn)), .second]) rfl k) ?_
                    show Goes p e below QQ (T169.setTop (mkF m 413 #[.val (.long p1), .second, .val (.long p2), .second, iv p3, iv p4, iv ln, iv (Int32.ofNat tn), iv of, rv b10, rv b134, .val (.long (accF (bsF p1 tn) tn)), .second] []))
                    refine Goes.on (fun t k => XS.lload X169.here hx rfl (hb hby at_413) rfl k) ?_
                    show Goes p e below QQ (T169.setTop (mkF m 415 #[.val (.long p1), .second, .val (.long p2), .second, iv p3, iv p4, iv ln, iv (Int32.ofNat tn), iv of, rv b10, rv b134, .val (.long (accF (bsF p1 tn) tn)), .second] [(.long (accF (bsF p1 tn) tn))]))
                    refine Goes.on (fun t k => XS.lloadN X169.here hx rfl (hb hby at_415) rfl k) ?_
                    show Goes p e below QQ (T169.setTop (mkF m 416 #[.val (.long p1), .second, .val (.long p2), .second, iv p3, iv p4, iv ln, iv (Int32.ofNat tn), iv of, rv b10, rv b134, .val (.long (accF (bsF p1 tn) tn)), .second] [(.long p1), (.long (accF (bsF p1 tn) tn))]))
                    refine Goes.on (fun t k => XS.lcmp X169.here hx rfl (hb hby at_416) rfl k) ?_
                    show Goes p e below QQ (T169.setTop (mkF m 417 #[.val (.long p1), .second, .val (.long p2), .second, iv p3, iv p4, iv ln, iv (Int32.ofNat tn), iv of, rv b10, rv b134, .val (.long (accF (bsF p1 tn) tn)), .second] [(.int (lcmpW (accF (bsF p1 tn) tn) p1))]))
                    refine Goes.on (fun t k => XS.ifNo X169.here hx rfl (hb hby at_417) rfl ((if0 _ _).trans (teq ((lw_eq (accF (bsF p1 tn) tn) p1).mpr (own_count p1 tn ht1 ht2 hcov))).2) k) ?_
                    show Goes p e below QQ (T169.setTop (mkF m 420 #[.val (.long p1), .second, .val (.long p2), .second, iv p3, iv p4, iv ln, iv (Int32.ofNat tn), iv of, rv b10, rv b134, .val (.long (accF (bsF p1 tn) tn)), .second] []))
                    refine Goes.on (fun t k => XS.aload X169.here hx rfl (hb hby at_420) rfl rfl k) ?_
                    show Goes p e below QQ (T169.setTop (mkF m 422 #[.val (.long p1), .second, .val (.long p2), .second, iv p3, iv p4, iv ln, iv (Int32.ofNat tn), iv of, rv b10, rv b134, .val (.long (accF (bsF p1 tn) tn)), .second] [(.ref b134)]))
                    obtain ⟨cq177, kq177, q177a, q177b, q177c⟩ := isOf hZ rfl A134_172
                    obtain ⟨_, _, ⟨T177, L177, k177, n177⟩, -, X177, ⟨Lc177, hQ177, l177, y177, z177⟩, st177⟩ := X169.virtualBack hx (y := (⟨"com/example/lendgate/lendgate/circulation/Decoder", "position", "()I"⟩ : MethodName)) (z := (⟨"com/example/lendgate/lendgate/circulation/Decoder", "position", "()I"⟩ : MethodName)) hown (mvT hZ (hw _ (List.mem_of_getElem? (i := 82) rfl))) (mvT hZ (hw _ (List.mem_of_getElem? (i := 83) rfl))) (notFace_of_selects (args := #[]) (mvT hZ (hw _ (List.mem_of_getElem? (i := 85) rfl)))) (mvT hZ (hw _ (List.mem_of_getElem? (i := 85) rfl))) (mvT hZ (hw _ (List.mem_of_getElem? (i := 84) rfl))) (by decide) (backOf (W := 0) (rmPo l Z a0 hw [] b134 (of + Int32.ofNat tn) T169.heap n0 (Nat.le_trans Z0 K176.1) Fe) hZ (hw _ (List.mem_of_getElem? (i := 86) rfl)) (hw _ (List.mem_of_getElem? (i := 12) rfl)) (by decide) (by decide)) q177a q177c (g := (mkF m 422 #[.val (.long p1), .second, .val (.long p2), .second, iv p3, iv p4, iv ln, iv (Int32.ofNat tn), iv of, rv b10, rv b134, .val (.long (accF (bsF p1 tn) tn)), .second] [(.ref b134)])) rfl (by rw [hml]; rfl) (Steps.refl _) (argsL := []) (rest := []) (lenOf pd_5 rfl) rfl (by show 2 * 0 + _ ≤ _; exact Nat.le_of_eq rfl) (hb hby at_422) (fun _ _ => ⟨rfl, rfl, (by decide : 5 + 0 ≤ _), (by decide : 30 + 0 ≤ _)⟩)
                    dsimp only [Pt.U, Pt.locs, Pt.cells, Pt.slots] at X177 l177 y177 z177 st177 hQ177
                    have l177 := l177.symm; have y177 := y177.symm; have z177 := z177.symm; subst l177 y177 z177
                    have X177 : Stand p l e room_1 s m #[(.long p1), (.long p2), (.int p3), (.int p4)] below meth c T177 _ 5 30 := X177
                    obtain ⟨rfl, M177, e177⟩ := hQ177
                    have N177 := Fr.app N169 M177
                    refine Goes.on (fun t k => st177.trans k) ?_
                    show Goes p e below QQ (T177.setTop (mkF m 425 #[.val (.long p1), .second, .val (.long p2), .second, iv p3, iv p4, iv ln, iv (Int32.ofNat tn), iv of, rv b10, rv b134, .val (.long (accF (bsF p1 tn) tn)), .second] [(.int (of + Int32.ofNat tn))]))
                    refine Goes.on (fun t k => XS.iload X177.here hx rfl (hb hby at_425) rfl k) ?_
                    show Goes p e below QQ (T177.setTop (mkF m 427 #[.val (.long p1), .second, .val (.long p2), .second, iv p3, iv p4, iv ln, iv (Int32.ofNat tn), iv of, rv b10, rv b134, .val (.long (accF (bsF p1 tn) tn)), .second] [(.int of), (.int (of + Int32.ofNat tn))]))
                    refine Goes.on (fun t k => XS.iload X177.here hx rfl (hb hby at_427) rfl k) ?_
                    show Goes p e below QQ (T177.setTop (mkF m 429 #[.val (.long p1), .second, .val (.long p2), .second, iv p3, iv p4, iv ln, iv (Int32.ofNat tn), iv of, rv b10, rv b134, .val (.long (accF (bsF p1 tn) tn)), .second] [(.int (Int32.ofNat tn)), (.int of), (.int (of + Int32.ofNat tn))]))
                    refine Goes.on (fun t k => XS.iadd X177.here hx rfl (hb hby at_429) rfl k) ?_
                    show Goes p e below QQ (T177.setTop (mkF m 430 #[.val (.long p1), .second, .val (.long p2), .second, iv p3, iv p4, iv ln, iv (Int32.ofNat tn), iv of, rv b10, rv b134, .val (.long (accF (bsF p1 tn) tn)), .second] [(.int (of + (Int32.ofNat tn))), (.int (of + Int32.ofNat tn))]))
                    refine Goes.on (fun t k => XS.icmpNo X177.here hx rfl (hb hby at_430) rfl (teq (Eq.refl (of + Int32.ofNat tn))).2 k) ?_
                    show Goes p e below QQ (T177.setTop (mkF m 433 #[.val (.long p1), .second, .val (.long p2), .second, iv p3, iv p4, iv ln, iv (Int32.ofNat tn), iv of, rv b10, rv b134, .val (.long (accF (bsF p1 tn) tn)), .second] []))
                    refine Goes.on (fun t k => XS.iconst X177.here hx rfl (hb hby at_433) k) ?_
                    show Goes p e below QQ (T177.setTop (mkF m 434 #[.val (.long p1), .second, .val (.long p2), .second, iv p3, iv p4, iv ln, iv (Int32.ofNat tn), iv of, rv b10, rv b134, .val (.long (accF (bsF p1 tn) tn)), .second] [(.int 1)]))
                    refine Goes.on (fun t k => XS.goto X177.here hx rfl (pc0 := 434) (pc' := 438) rfl (hb hby at_434) (by decide) (by decide) k) ?_
                    show Goes p e below QQ (T177.setTop (mkF m 438 #[.val (.long p1), .second, .val (.long p2), .second, iv p3, iv p4, iv ln, iv (Int32.ofNat tn), iv of, rv b10, rv b134, .val (.long (accF (bsF p1 tn) tn)), .second] [(.int 1)]))
                    exact Goes.rN X177 hx (t := .boolean) hret (by simp) hlk (hb hby at_438) hQQ ⟨rfl, N177⟩ (by decide) (by decide)
                  show Goes p e below QQ (TJ8.setTop (mkF m 109 #[.val (.long p1), .second, .val (.long p2), .second, iv p3, iv p4, iv (if ((p1.toUInt64 >>> ((56 : Int32) &&& 0x3f).toInt64.toUInt64).toInt64) = (0 : Int64) then (if ((p1.toUInt64 >>> ((49 : Int32) &&& 0x3f).toInt64.toUInt64).toInt64) = (0 : Int64) then (if ((p1.toUInt64 >>> ((42 : Int32) &&& 0x3f).toInt64.toUInt64).toInt64) = (0 : Int64) then (if ((p1.toUInt64 >>> ((35 : Int32) &&& 0x3f).toInt64.toUInt64).toInt64) = (0 : Int64) then (if ((p1.toUInt64 >>> ((28 : Int32) &&& 0x3f).toInt64.toUInt64).toInt64) = (0 : Int64) then (if ((p1.toUInt64 >>> ((21 : Int32) &&& 0x3f).toInt64.toUInt64).toInt64) = (0 : Int64) then (if ((p1.toUInt64 >>> ((14 : Int32) &&& 0x3f).toInt64.toUInt64).toInt64) = (0 : Int64) then (if ((p1.toUInt64 >>> ((7 : Int32) &&& 0x3f).toInt64.toUInt64).toInt64) = (0 : Int64) then (1 : Int32) else (2 : Int32)) else (3 : Int32)) else (4 : Int32)) else (5 : Int32)) else (6 : Int32)) else (7 : Int32)) else (8 : Int32)) else (9 : Int32)), .unset, .unset, .unset, .unset, .unset, .unset] [(.int (lcmpW ((p1.toUInt64 >>> ((63 : Int32) &&& 0x3f).toInt64.toUInt64).toInt64) (0 : Int64)))]))
                  by_cases hb178 : ((p1.toUInt64 >>> ((63 : Int32) &&& 0x3f).toInt64.toUInt64).toInt64) = (0 : Int64)
                  · refine Goes.on (fun t k => XS.ifYes XJ8.here hx rfl (pc0 := 109) (pc' := 116) rfl (hb hby at_109) rfl ((if0 _ _).trans (teq ((lw_eq ((p1.toUInt64 >>> ((63 : Int32) &&& 0x3f).toInt64.toUInt64).toInt64) (0 : Int64)).mpr hb178)).1) (by decide) (by decide) k) ?_
                    show Goes p e below QQ (TJ8.setTop (mkF m 116 #[.val (.long p1), .second, .val (.long p2), .second, iv p3, iv p4, iv (if ((p1.toUInt64 >>> ((56 : Int32) &&& 0x3f).toInt64.toUInt64).toInt64) = (0 : Int64) then (if ((p1.toUInt64 >>> ((49 : Int32) &&& 0x3f).toInt64.toUInt64).toInt64) = (0 : Int64) then (if ((p1.toUInt64 >>> ((42 : Int32) &&& 0x3f).toInt64.toUInt64).toInt64) = (0 : Int64) then (if ((p1.toUInt64 >>> ((35 : Int32) &&& 0x3f).toInt64.toUInt64).toInt64) = (0 : Int64) then (if ((p1.toUInt64 >>> ((28 : Int32) &&& 0x3f).toInt64.toUInt64).toInt64) = (0 : Int64) then (if ((p1.toUInt64 >>> ((21 : Int32) &&& 0x3f).toInt64.toUInt64).toInt64) = (0 : Int64) then (if ((p1.toUInt64 >>> ((14 : Int32) &&& 0x3f).toInt64.toUInt64).toInt64) = (0 : Int64) then (if ((p1.toUInt64 >>> ((7 : Int32) &&& 0x3f).toInt64.toUInt64).toInt64) = (0 : Int64) then (1 : Int32) else (2 : Int32)) else (3 : Int32)) else (4 : Int32)) else (5 : Int32)) else (6 : Int32)) else (7 : Int32)) else (8 : Int32)) else (9 : Int32)), .unset, .unset, .unset, .unset, .unset, .unset] []))
                    rw [(((if_pos hb178).trans rfl) : (if ((p1.toUInt64 >>> ((63 : Int32) &&& 0x3f).toInt64.toUInt64).toInt64) = (0 : Int64) then (if ((p1.toUInt64 >>> ((56 : Int32) &&& 0x3f).toInt64.toUInt64).toInt64) = (0 : Int64) then (if ((p1.toUInt64 >>> ((49 : Int32) &&& 0x3f).toInt64.toUInt64).toInt64) = (0 : Int64) then (if ((p1.toUInt64 >>> ((42 : Int32) &&& 0x3f).toInt64.toUInt64).toInt64) = (0 : Int64) then (if ((p1.toUInt64 >>> ((35 : Int32) &&& 0x3f).toInt64.toUInt64).toInt64) = (0 : Int64) then (if ((p1.toUInt64 >>> ((28 : Int32) &&& 0x3f).toInt64.toUInt64).toInt64) = (0 : Int64) then (if ((p1.toUInt64 >>> ((21 : Int32) &&& 0x3f).toInt64.toUInt64).toInt64) = (0 : Int64) then (if ((p1.toUInt64 >>> ((14 : Int32) &&& 0x3f).toInt64.toUInt64).toInt64) = (0 : Int64) then (if ((p1.toUInt64 >>> ((7 : Int32) &&& 0x3f).toInt64.toUInt64).toInt64) = (0 : Int64) then (1 : Int32) else (2 : Int32)) else (3 : Int32)) else (4 : Int32)) else (5 : Int32)) else (6 : Int32)) else (7 : Int32)) else (8 : Int32)) else (9 : Int32)) else (10 : Int32)) = (if ((p1.toUInt64 >>> ((56 : Int32) &&& 0x3f).toInt64.toUInt64).toInt64) = (0 : Int64) then (if ((p1.toUInt64 >>> ((49 : Int32) &&& 0x3f).toInt64.toUInt64).toInt64) = (0 : Int64) then (if ((p1.toUInt64 >>> ((42 : Int32) &&& 0x3f).toInt64.toUInt64).toInt64) = (0 : Int64) then (if ((p1.toUInt64 >>> ((35 : Int32) &&& 0x3f).toInt64.toUInt64).toInt64) = (0 : Int64) then (if ((p1.toUInt64 >>> ((28 : Int32) &&& 0x3f).toInt64.toUInt64).toInt64) = (0 : Int64) then (if ((p1.toUInt64 >>> ((21 : Int32) &&& 0x3f).toInt64.toUInt64).toInt64) = (0 : Int64) then (if ((p1.toUInt64 >>> ((14 : Int32) &&& 0x3f).toInt64.toUInt64).toInt64) = (0 : Int64) then (if ((p1.toUInt64 >>> ((7 : Int32) &&& 0x3f).toInt64.toUInt64).toInt64) = (0 : Int64) then (1 : Int32) else (2 : Int32)) else (3 : Int32)) else (4 : Int32)) else (5 : Int32)) else (6 : Int32)) else (7 : Int32)) else (8 : Int32)) else (9 : Int32)))] at J9
                    exact J9 _ _ XJ8 eJ8 NJ8
                  · refine Goes.on (fun t k => XS.ifNo XJ8.here hx rfl (hb hby at_109) rfl ((if0 _ _).trans (feq (mt (lw_eq ((p1.toUInt64 >>> ((63 : Int32) &&& 0x3f).toInt64.toUInt64).toInt64) (0 : Int64)).mp hb178)).1) k) ?_
                    show Goes p e below QQ (TJ8.setTop (mkF m 112 #[.val (.long p1), .second, .val (.long p2), .second, iv p3, iv p4, iv (if ((p1.toUInt64 >>> ((56 : Int32) &&& 0x3f).toInt64.toUInt64).toInt64) = (0 : Int64) then (if ((p1.toUInt64 >>> ((49 : Int32) &&& 0x3f).toInt64.toUInt64).toInt64) = (0 : Int64) then (if ((p1.toUInt64 >>> ((42 : Int32) &&& 0x3f).toInt64.toUInt64).toInt64) = (0 : Int64) then (if ((p1.toUInt64 >>> ((35 : Int32) &&& 0x3f).toInt64.toUInt64).toInt64) = (0 : Int64) then (if ((p1.toUInt64 >>> ((28 : Int32) &&& 0x3f).toInt64.toUInt64).toInt64) = (0 : Int64) then (if ((p1.toUInt64 >>> ((21 : Int32) &&& 0x3f).toInt64.toUInt64).toInt64) = (0 : Int64) then (if ((p1.toUInt64 >>> ((14 : Int32) &&& 0x3f).toInt64.toUInt64).toInt64) = (0 : Int64) then (if ((p1.toUInt64 >>> ((7 : Int32) &&& 0x3f).toInt64.toUInt64).toInt64) = (0 : Int64) then (1 : Int32) else (2 : Int32)) else (3 : Int32)) else (4 : Int32)) else (5 : Int32)) else (6 : Int32)) else (7 : Int32)) else (8 : Int32)) else (9 : Int32)), .unset, .unset, .unset, .unset, .unset, .unset] []))
                    refine Goes.on (fun t k => XS.bipush XJ8.here hx rfl (hb hby at_112) k) ?_
                    show Goes p e below QQ (TJ8.setTop (mkF m 114 #[.val (.long p1), .second, .val (.long p2), .second, iv p3, iv p4, iv (if ((p1.toUInt64 >>> ((56 : Int32) &&& 0x3f).toInt64.toUInt64).toInt64) = (0 : Int64) then (if ((p1.toUInt64 >>> ((49 : Int32) &&& 0x3f).toInt64.toUInt64).toInt64) = (0 : Int64) then (if ((p1.toUInt64 >>> ((42 : Int32) &&& 0x3f).toInt64.toUInt64).toInt64) = (0 : Int64) then (if ((p1.toUInt64 >>> ((35 : Int32) &&& 0x3f).toInt64.toUInt64).toInt64) = (0 : Int64) then (if ((p1.toUInt64 >>> ((28 : Int32) &&& 0x3f).toInt64.toUInt64).toInt64) = (0 : Int64) then (if ((p1.toUInt64 >>> ((21 : Int32) &&& 0x3f).toInt64.toUInt64).toInt64) = (0 : Int64) then (if ((p1.toUInt64 >>> ((14 : Int32) &&& 0x3f).toInt64.toUInt64).toInt64) = (0 : Int64) then (if ((p1.toUInt64 >>> ((7 : Int32) &&& 0x3f).toInt64.toUInt64).toInt64) = (0 : Int64) then (1 : Int32) else (2 : Int32)) else (3 : Int32)) else (4 : Int32)) else (5 : Int32)) else (6 : Int32)) else (7 : Int32)) else (8 : Int32)) else (9 : Int32)), .unset, .unset, .unset, .unset, .unset, .unset] [(.int 10)]))
                    refine Goes.on (fun t k => XS.istore XJ8.here hx rfl (hb hby at_114) rfl (l' := #[.val (.long p1), .second, .val (.long p2), .second, iv p3, iv p4, iv 10, .unset, .unset, .unset, .unset, .unset, .unset]) rfl k) ?_
                    show Goes p e below QQ (TJ8.setTop (mkF m 116 #[.val (.long p1), .second, .val (.long p2), .second, iv p3, iv p4, iv 10, .unset, .unset, .unset, .unset, .unset, .unset] []))
                    rw [(((if_neg hb178).trans rfl) : (if ((p1.toUInt64 >>> ((63 : Int32) &&& 0x3f).toInt64.toUInt64).toInt64) = (0 : Int64) then (if ((p1.toUInt64 >>> ((56 : Int32) &&& 0x3f).toInt64.toUInt64).toInt64) = (0 : Int64) then (if ((p1.toUInt64 >>> ((49 : Int32) &&& 0x3f).toInt64.toUInt64).toInt64) = (0 : Int64) then (if ((p1.toUInt64 >>> ((42 : Int32) &&& 0x3f).toInt64.toUInt64).toInt64) = (0 : Int64) then (if ((p1.toUInt64 >>> ((35 : Int32) &&& 0x3f).toInt64.toUInt64).toInt64) = (0 : Int64) then (if ((p1.toUInt64 >>> ((28 : Int32) &&& 0x3f).toInt64.toUInt64).toInt64) = (0 : Int64) then (if ((p1.toUInt64 >>> ((21 : Int32) &&& 0x3f).toInt64.toUInt64).toInt64) = (0 : Int64) then (if ((p1.toUInt64 >>> ((14 : Int32) &&& 0x3f).toInt64.toUInt64).toInt64) = (0 : Int64) then (if ((p1.toUInt64 >>> ((7 : Int32) &&& 0x3f).toInt64.toUInt64).toInt64) = (0 : Int64) then (1 : Int32) else (2 : Int32)) else (3 : Int32)) else (4 : Int32)) else (5 : Int32)) else (6 : Int32)) else (7 : Int32)) else (8 : Int32)) else (9 : Int32)) else (10 : Int32)) = (10 : Int32))] at J9
                    exact J9 _ _ XJ8 eJ8 NJ8
                show Goes p e below QQ (TJ7.setTop (mkF m 96 #[.val (.long p1), .second, .val (.long p2), .second, iv p3, iv p4, iv (if ((p1.toUInt64 >>> ((49 : Int32) &&& 0x3f).toInt64.toUInt64).toInt64) = (0 : Int64) then (if ((p1.toUInt64 >>> ((42 : Int32) &&& 0x3f).toInt64.toUInt64).toInt64) = (0 : Int64) then (if ((p1.toUInt64 >>> ((35 : Int32) &&& 0x3f).toInt64.toUInt64).toInt64) = (0 : Int64) then (if ((p1.toUInt64 >>> ((28 : Int32) &&& 0x3f).toInt64.toUInt64).toInt64) = (0 : Int64) then (if ((p1.toUInt64 >>> ((21 : Int32) &&& 0x3f).toInt64.toUInt64).toInt64) = (0 : Int64) then (if ((p1.toUInt64 >>> ((14 : Int32) &&& 0x3f).toInt64.toUInt64).toInt64) = (0 : Int64) then (if ((p1.toUInt64 >>> ((7 : Int32) &&& 0x3f).toInt64.toUInt64).toInt64) = (0 : Int64) then (1 : Int32) else (2 : Int32)) else (3 : Int32)) else (4 : Int32)) else (5 : Int32)) else (6 : Int32)) else (7 : Int32)) else (8 : Int32)), .unset, .unset, .unset, .unset, .unset, .unset] [(.int (lcmpW ((p1.toUInt64 >>> ((56 : Int32) &&& 0x3f).toInt64.toUInt64).toInt64) (0 : Int64)))]))
                by_cases hb179 : ((p1.toUInt64 >>> ((56 : Int32) &&& 0x3f).toInt64.toUInt64).toInt64) = (0 : Int64)
                · refine Goes.on (fun t k => XS.ifYes XJ7.here hx rfl (pc0 := 96) (pc' := 103) rfl (hb hby at_96) rfl ((if0 _ _).trans (teq ((lw_eq ((p1.toUInt64 >>> ((56 : Int32) &&& 0x3f).toInt64.toUInt64).toInt64) (0 : Int64)).mpr hb179)).1) (by decide) (by decide) k) ?_
                  show Goes p e below QQ (TJ7.setTop (mkF m 103 #[.val (.long p1), .second, .val (.long p2), .second, iv p3, iv p4, iv (if ((p1.toUInt64 >>> ((49 : Int32) &&& 0x3f).toInt64.toUInt64).toInt64) = (0 : Int64) then (if ((p1.toUInt64 >>> ((42 : Int32) &&& 0x3f).toInt64.toUInt64).toInt64) = (0 : Int64) then (if ((p1.toUInt64 >>> ((35 : Int32) &&& 0x3f).toInt64.toUInt64).toInt64) = (0 : Int64) then (if ((p1.toUInt64 >>> ((28 : Int32) &&& 0x3f).toInt64.toUInt64).toInt64) = (0 : Int64) then (if ((p1.toUInt64 >>> ((21 : Int32) &&& 0x3f).toInt64.toUInt64).toInt64) = (0 : Int64) then (if ((p1.toUInt64 >>> ((14 : Int32) &&& 0x3f).toInt64.toUInt64).toInt64) = (0 : Int64) then (if ((p1.toUInt64 >>> ((7 : Int32) &&& 0x3f).toInt64.toUInt64).toInt64) = (0 : Int64) then (1 : Int32) else (2 : Int32)) else (3 : Int32)) else (4 : Int32)) else (5 : Int32)) else (6 : Int32)) else (7 : Int32)) else (8 : Int32)), .unset, .unset, .unset, .unset, .unset, .unset] []))
                  rw [(((if_pos hb179).trans rfl) : (if ((p1.toUInt64 >>> ((56 : Int32) &&& 0x3f).toInt64.toUInt64).toInt64) = (0 : Int64) then (if ((p1.toUInt64 >>> ((49 : Int32) &&& 0x3f).toInt64.toUInt64).toInt64) = (0 : Int64) then (if ((p1.toUInt64 >>> ((42 : Int32) &&& 0x3f).toInt64.toUInt64).toInt64) = (0 : Int64) then (if ((p1.toUInt64 >>> ((35 : Int32) &&& 0x3f).toInt64.toUInt64).toInt64) = (0 : Int64) then (if ((p1.toUInt64 >>> ((28 : Int32) &&& 0x3f).toInt64.toUInt64).toInt64) = (0 : Int64) then (if ((p1.toUInt64 >>> ((21 : Int32) &&& 0x3f).toInt64.toUInt64).toInt64) = (0 : Int64) then (if ((p1.toUInt64 >>> ((14 : Int32) &&& 0x3f).toInt64.toUInt64).toInt64) = (0 : Int64) then (if ((p1.toUInt64 >>> ((7 : Int32) &&& 0x3f).toInt64.toUInt64).toInt64) = (0 : Int64) then (1 : Int32) else (2 : Int32)) else (3 : Int32)) else (4 : Int32)) else (5 : Int32)) else (6 : Int32)) else (7 : Int32)) else (8 : Int32)) else (9 : Int32)) = (if ((p1.toUInt64 >>> ((49 : Int32) &&& 0x3f).toInt64.toUInt64).toInt64) = (0 : Int64) then (if ((p1.toUInt64 >>> ((42 : Int32) &&& 0x3f).toInt64.toUInt64).toInt64) = (0 : Int64) then (if ((p1.toUInt64 >>> ((35 : Int32) &&& 0x3f).toInt64.toUInt64).toInt64) = (0 : Int64) then (if ((p1.toUInt64 >>> ((28 : Int32) &&& 0x3f).toInt64.toUInt64).toInt64) = (0 : Int64) then (if ((p1.toUInt64 >>> ((21 : Int32) &&& 0x3f).toInt64.toUInt64).toInt64) = (0 : Int64) then (if ((p1.toUInt64 >>> ((14 : Int32) &&& 0x3f).toInt64.toUInt64).toInt64) = (0 : Int64) then (if ((p1.toUInt64 >>> ((7 : Int32) &&& 0x3f).toInt64.toUInt64).toInt64) = (0 : Int64) then (1 : Int32) else (2 : Int32)) else (3 : Int32)) else (4 : Int32)) else (5 : Int32)) else (6 : Int32)) else (7 : Int32)) else (8 : Int32)))] at J8
                  exact J8 _ _ XJ7 eJ7 NJ7
                · refine Goes.on (fun t k => XS.ifNo XJ7.here hx rfl (hb hby at_96) rfl ((if0 _ _).trans (feq (mt (lw_eq ((p1.toUInt64 >>> ((56 : Int32) &&& 0x3f).toInt64.toUInt64).toInt64) (0 : Int64)).mp hb179)).1) k) ?_
                  show Goes p e below QQ (TJ7.setTop (mkF m 99 #[.val (.long p1), .second, .val (.long p2), .second, iv p3, iv p4, iv (if ((p1.toUInt64 >>> ((49 : Int32) &&& 0x3f).toInt64.toUInt64).toInt64) = (0 : Int64) then (if ((p1.toUInt64 >>> ((42 : Int32) &&& 0x3f).toInt64.toUInt64).toInt64) = (0 : Int64) then (if ((p1.toUInt64 >>> ((35 : Int32) &&& 0x3f).toInt64.toUInt64).toInt64) = (0 : Int64) then (if ((p1.toUInt64 >>> ((28 : Int32) &&& 0x3f).toInt64.toUInt64).toInt64) = (0 : Int64) then (if ((p1.toUInt64 >>> ((21 : Int32) &&& 0x3f).toInt64.toUInt64).toInt64) = (0 : Int64) then (if ((p1.toUInt64 >>> ((14 : Int32) &&& 0x3f).toInt64.toUInt64).toInt64) = (0 : Int64) then (if ((p1.toUInt64 >>> ((7 : Int32) &&& 0x3f).toInt64.toUInt64).toInt64) = (0 : Int64) then (1 : Int32) else (2 : Int32)) else (3 : Int32)) else (4 : Int32)) else (5 : Int32)) else (6 : Int32)) else (7 : Int32)) else (8 : Int32)), .unset, .unset, .unset, .unset, .unset, .unset] []))
                  refine Goes.on (fun t k => XS.bipush XJ7.here hx rfl (hb hby at_99) k) ?_
                  show Goes p e below QQ (TJ7.setTop (mkF m 101 #[.val (.long p1), .second, .val (.long p2), .second, iv p3, iv p4, iv (if ((p1.toUInt64 >>> ((49 : Int32) &&& 0x3f).toInt64.toUInt64).toInt64) = (0 : Int64) then (if ((p1.toUInt64 >>> ((42 : Int32) &&& 0x3f).toInt64.toUInt64).toInt64) = (0 : Int64) then (if ((p1.toUInt64 >>> ((35 : Int32) &&& 0x3f).toInt64.toUInt64).toInt64) = (0 : Int64) then (if ((p1.toUInt64 >>> ((28 : Int32) &&& 0x3f).toInt64.toUInt64).toInt64) = (0 : Int64) then (if ((p1.toUInt64 >>> ((21 : Int32) &&& 0x3f).toInt64.toUInt64).toInt64) = (0 : Int64) then (if ((p1.toUInt64 >>> ((14 : Int32) &&& 0x3f).toInt64.toUInt64).toInt64) = (0 : Int64) then (if ((p1.toUInt64 >>> ((7 : Int32) &&& 0x3f).toInt64.toUInt64).toInt64) = (0 : Int64) then (1 : Int32) else (2 : Int32)) else (3 : Int32)) else (4 : Int32)) else (5 : Int32)) else (6 : Int32)) else (7 : Int32)) else (8 : Int32)), .unset, .unset, .unset, .unset, .unset, .unset] [(.int 9)]))
                  refine Goes.on (fun t k => XS.istore XJ7.here hx rfl (hb hby at_101) rfl (l' := #[.val (.long p1), .second, .val (.long p2), .second, iv p3, iv p4, iv 9, .unset, .unset, .unset, .unset, .unset, .unset]) rfl k) ?_
                  show Goes p e below QQ (TJ7.setTop (mkF m 103 #[.val (.long p1), .second, .val (.long p2), .second, iv p3, iv p4, iv 9, .unset, .unset, .unset, .unset, .unset, .unset] []))
                  rw [(((if_neg hb179).trans rfl) : (if ((p1.toUInt64 >>> ((56 : Int32) &&& 0x3f).toInt64.toUInt64).toInt64) = (0 : Int64) then (if ((p1.toUInt64 >>> ((49 : Int32) &&& 0x3f).toInt64.toUInt64).toInt64) = (0 : Int64) then (if ((p1.toUInt64 >>> ((42 : Int32) &&& 0x3f).toInt64.toUInt64).toInt64) = (0 : Int64) then (if ((p1.toUInt64 >>> ((35 : Int32) &&& 0x3f).toInt64.toUInt64).toInt64) = (0 : Int64) then (if ((p1.toUInt64 >>> ((28 : Int32) &&& 0x3f).toInt64.toUInt64).toInt64) = (0 : Int64) then (if ((p1.toUInt64 >>> ((21 : Int32) &&& 0x3f).toInt64.toUInt64).toInt64) = (0 : Int64) then (if ((p1.toUInt64 >>> ((14 : Int32) &&& 0x3f).toInt64.toUInt64).toInt64) = (0 : Int64) then (if ((p1.toUInt64 >>> ((7 : Int32) &&& 0x3f).toInt64.toUInt64).toInt64) = (0 : Int64) then (1 : Int32) else (2 : Int32)) else (3 : Int32)) else (4 : Int32)) else (5 : Int32)) else (6 : Int32)) else (7 : Int32)) else (8 : Int32)) else (9 : Int32)) = (9 : Int32))] at J8
                  exact J8 _ _ XJ7 eJ7 NJ7
              show Goes p e below QQ (TJ6.setTop (mkF m 83 #[.val (.long p1), .second, .val (.long p2), .second, iv p3, iv p4, iv (if ((p1.toUInt64 >>> ((42 : Int32) &&& 0x3f).toInt64.toUInt64).toInt64) = (0 : Int64) then (if ((p1.toUInt64 >>> ((35 : Int32) &&& 0x3f).toInt64.toUInt64).toInt64) = (0 : Int64) then (if ((p1.toUInt64 >>> ((28 : Int32) &&& 0x3f).toInt64.toUInt64).toInt64) = (0 : Int64) then (if ((p1.toUInt64 >>> ((21 : Int32) &&& 0x3f).toInt64.toUInt64).toInt64) = (0 : Int64) then (if ((p1.toUInt64 >>> ((14 : Int32) &&& 0x3f).toInt64.toUInt64).toInt64) = (0 : Int64) then (if ((p1.toUInt64 >>> ((7 : Int32) &&& 0x3f).toInt64.toUInt64).toInt64) = (0 : Int64) then (1 : Int32) else (2 : Int32)) else (3 : Int32)) else (4 : Int32)) else (5 : Int32)) else (6 : Int32)) else (7 : Int32)), .unset, .unset, .unset, .unset, .unset, .unset] [(.int (lcmpW ((p1.toUInt64 >>> ((49 : Int32) &&& 0x3f).toInt64.toUInt64).toInt64) (0 : Int64)))]))
              by_cases hb180 : ((p1.toUInt64 >>> ((49 : Int32) &&& 0x3f).toInt64.toUInt64).toInt64) = (0 : Int64)
              · refine Goes.on (fun t k => XS.ifYes XJ6.here hx rfl (pc0 := 83) (pc' := 90) rfl (hb hby at_83) rfl ((if0 _ _).trans (teq ((lw_eq ((p1.toUInt64 >>> ((49 : Int32) &&& 0x3f).toInt64.toUInt64).toInt64) (0 : Int64)).mpr hb180)).1) (by decide) (by decide) k) ?_
                show Goes p e below QQ (TJ6.setTop (mkF m 90 #[.val (.long p1), .second, .val (.long p2), .second, iv p3, iv p4, iv (if ((p1.toUInt64 >>> ((42 : Int32) &&& 0x3f).toInt64.toUInt64).toInt64) = (0 : Int64) then (if ((p1.toUInt64 >>> ((35 : Int32) &&& 0x3f).toInt64.toUInt64).toInt64) = (0 : Int64) then (if ((p1.toUInt64 >>> ((28 : Int32) &&& 0x3f).toInt64.toUInt64).toInt64) = (0 : Int64) then (if ((p1.toUInt64 >>> ((21 : Int32) &&& 0x3f).toInt64.toUInt64).toInt64) = (0 : Int64) then (if ((p1.toUInt64 >>> ((14 : Int32) &&& 0x3f).toInt64.toUInt64).toInt64) = (0 : Int64) then (if ((p1.toUInt64 >>> ((7 : Int32) &&& 0x3f).toInt64.toUInt64).toInt64) = (0 : Int64) then (1 : Int32) else (2 : Int32)) else (3 : Int32)) else (4 : Int32)) else (5 : Int32)) else (6 : Int32)) else (7 : Int32)), .unset, .unset, .unset, .unset, .unset, .unset] []))
                rw [(((if_pos hb180).trans rfl) : (if ((p1.toUInt64 >>> ((49 : Int32) &&& 0x3f).toInt64.toUInt64).toInt64) = (0 : Int64) then (if ((p1.toUInt64 >>> ((42 : Int32) &&& 0x3f).toInt64.toUInt64).toInt64) = (0 : Int64) then (if ((p1.toUInt64 >>> ((35 : Int32) &&& 0x3f).toInt64.toUInt64).toInt64) = (0 : Int64) then (if ((p1.toUInt64 >>> ((28 : Int32) &&& 0x3f).toInt64.toUInt64).toInt64) = (0 : Int64) then (if ((p1.toUInt64 >>> ((21 : Int32) &&& 0x3f).toInt64.toUInt64).toInt64) = (0 : Int64) then (if ((p1.toUInt64 >>> ((14 : Int32) &&& 0x3f).toInt64.toUInt64).toInt64) = (0 : Int64) then (if ((p1.toUInt64 >>> ((7 : Int32) &&& 0x3f).toInt64.toUInt64).toInt64) = (0 : Int64) then (1 : Int32) else (2 : Int32)) else (3 : Int32)) else (4 : Int32)) else (5 : Int32)) else (6 : Int32)) else (7 : Int32)) else (8 : Int32)) = (if ((p1.toUInt64 >>> ((42 : Int32) &&& 0x3f).toInt64.toUInt64).toInt64) = (0 : Int64) then (if ((p1.toUInt64 >>> ((35 : Int32) &&& 0x3f).toInt64.toUInt64).toInt64) = (0 : Int64) then (if ((p1.toUInt64 >>> ((28 : Int32) &&& 0x3f).toInt64.toUInt64).toInt64) = (0 : Int64) then (if ((p1.toUInt64 >>> ((21 : Int32) &&& 0x3f).toInt64.toUInt64).toInt64) = (0 : Int64) then (if ((p1.toUInt64 >>> ((14 : Int32) &&& 0x3f).toInt64.toUInt64).toInt64) = (0 : Int64) then (if ((p1.toUInt64 >>> ((7 : Int32) &&& 0x3f).toInt64.toUInt64).toInt64) = (0 : Int64) then (1 : Int32) else (2 : Int32)) else (3 : Int32)) else (4 : Int32)) else (5 : Int32)) else (6 : Int32)) else (7 : Int32)))] at J7
                exact J7 _ _ XJ6 eJ6 NJ6
              · refine Goes.on (fun t k => XS.ifNo XJ6.here hx rfl (hb hby at_83) rfl ((if0 _ _).trans (feq (mt (lw_eq ((p1.toUInt64 >>> ((49 : Int32) &&& 0x3f).toInt64.toUInt64).toInt64) (0 : Int64)).mp hb180)).1) k) ?_
                show Goes p e below QQ (TJ6.setTop (mkF m 86 #[.val (.long p1), .second, .val (.long p2), .second, iv p3, iv p4, iv (if ((p1.toUInt64 >>> ((42 : Int32) &&& 0x3f).toInt64.toUInt64).toInt64) = (0 : Int64) then (if ((p1.toUInt64 >>> ((35 : Int32) &&& 0x3f).toInt64.toUInt64).toInt64) = (0 : Int64) then (if ((p1.toUInt64 >>> ((28 : Int32) &&& 0x3f).toInt64.toUInt64).toInt64) = (0 : Int64) then (if ((p1.toUInt64 >>> ((21 : Int32) &&& 0x3f).toInt64.toUInt64).toInt64) = (0 : Int64) then (if ((p1.toUInt64 >>> ((14 : Int32) &&& 0x3f).toInt64.toUInt64).toInt64) = (0 : Int64) then (if ((p1.toUInt64 >>> ((7 : Int32) &&& 0x3f).toInt64.toUInt64).toInt64) = (0 : Int64) then (1 : Int32) else (2 : Int32)) else (3 : Int32)) else (4 : Int32)) else (5 : Int32)) else (6 : Int32)) else (7 : Int32)), .unset, .unset, .unset, .unset, .unset, .unset] []))
                refine Goes.on (fun t k => XS.bipush XJ6.here hx rfl (hb hby at_86) k) ?_
                show Goes p e below QQ (TJ6.setTop (mkF m 88 #[.val (.long p1), .second, .val (.long p2), .second, iv p3, iv p4, iv (if ((p1.toUInt64 >>> ((42 : Int32) &&& 0x3f).toInt64.toUInt64).toInt64) = (0 : Int64) then (if ((p1.toUInt64 >>> ((35 : Int32) &&& 0x3f).toInt64.toUInt64).toInt64) = (0 : Int64) then (if ((p1.toUInt64 >>> ((28 : Int32) &&& 0x3f).toInt64.toUInt64).toInt64) = (0 : Int64) then (if ((p1.toUInt64 >>> ((21 : Int32) &&& 0x3f).toInt64.toUInt64).toInt64) = (0 : Int64) then (if ((p1.toUInt64 >>> ((14 : Int32) &&& 0x3f).toInt64.toUInt64).toInt64) = (0 : Int64) then (if ((p1.toUInt64 >>> ((7 : Int32) &&& 0x3f).toInt64.toUInt64).toInt64) = (0 : Int64) then (1 : Int32) else (2 : Int32)) else (3 : Int32)) else (4 : Int32)) else (5 : Int32)) else (6 : Int32)) else (7 : Int32)), .unset, .unset, .unset, .unset, .unset, .unset] [(.int 8)]))
                refine Goes.on (fun t k => XS.istore XJ6.here hx rfl (hb hby at_88) rfl (l' := #[.val (.long p1), .second, .val (.long p2), .second, iv p3, iv p4, iv 8, .unset, .unset, .unset, .unset, .unset, .unset]) rfl k) ?_
                show Goes p e below QQ (TJ6.setTop (mkF m 90 #[.val (.long p1), .second, .val (.long p2), .second, iv p3, iv p4, iv 8, .unset, .unset, .unset, .unset, .unset, .unset] []))
                rw [(((if_neg hb180).trans rfl) : (if ((p1.toUInt64 >>> ((49 : Int32) &&& 0x3f).toInt64.toUInt64).toInt64) = (0 : Int64) then (if ((p1.toUInt64 >>> ((42 : Int32) &&& 0x3f).toInt64.toUInt64).toInt64) = (0 : Int64) then (if ((p1.toUInt64 >>> ((35 : Int32) &&& 0x3f).toInt64.toUInt64).toInt64) = (0 : Int64) then (if ((p1.toUInt64 >>> ((28 : Int32) &&& 0x3f).toInt64.toUInt64).toInt64) = (0 : Int64) then (if ((p1.toUInt64 >>> ((21 : Int32) &&& 0x3f).toInt64.toUInt64).toInt64) = (0 : Int64) then (if ((p1.toUInt64 >>> ((14 : Int32) &&& 0x3f).toInt64.toUInt64).toInt64) = (0 : Int64) then (if ((p1.toUInt64 >>> ((7 : Int32) &&& 0x3f).toInt64.toUInt64).toInt64) = (0 : Int64) then (1 : Int32) else (2 : Int32)) else (3 : Int32)) else (4 : Int32)) else (5 : Int32)) else (6 : Int32)) else (7 : Int32)) else (8 : Int32)) = (8 : Int32))] at J7
                exact J7 _ _ XJ6 eJ6 NJ6
            show Goes p e below QQ (TJ5.setTop (mkF m 70 #[.val (.long p1), .second, .val (.long p2), .second, iv p3, iv p4, iv (if ((p1.toUInt64 >>> ((35 : Int32) &&& 0x3f).toInt64.toUInt64).toInt64) = (0 : Int64) then (if ((p1.toUInt64 >>> ((28 : Int32) &&& 0x3f).toInt64.toUInt64).toInt64) = (0 : Int64) then (if ((p1.toUInt64 >>> ((21 : Int32) &&& 0x3f).toInt64.toUInt64).toInt64) = (0 : Int64) then (if ((p1.toUInt64 >>> ((14 : Int32) &&& 0x3f).toInt64.toUInt64).toInt64) = (0 : Int64) then (if ((p1.toUInt64 >>> ((7 : Int32) &&& 0x3f).toInt64.toUInt64).toInt64) = (0 : Int64) then (1 : Int32) else (2 : Int32)) else (3 : Int32)) else (4 : Int32)) else (5 : Int32)) else (6 : Int32)), .unset, .unset, .unset, .unset, .unset, .unset] [(.int (lcmpW ((p1.toUInt64 >>> ((42 : Int32) &&& 0x3f).toInt64.toUInt64).toInt64) (0 : Int64)))]))
            by_cases hb181 : ((p1.toUInt64 >>> ((42 : Int32) &&& 0x3f).toInt64.toUInt64).toInt64) = (0 : Int64)
            · refine Goes.on (fun t k => XS.ifYes XJ5.here hx rfl (pc0 := 70) (pc' := 77) rfl (hb hby at_70) rfl ((if0 _ _).trans (teq ((lw_eq ((p1.toUInt64 >>> ((42 : Int32) &&& 0x3f).toInt64.toUInt64).toInt64) (0 : Int64)).mpr hb181)).1) (by decide) (by decide) k) ?_
              show Goes p e below QQ (TJ5.setTop (mkF m 77 #[.val (.long p1), .second, .val (.long p2), .second, iv p3, iv p4, iv (if ((p1.toUInt64 >>> ((35 : Int32) &&& 0x3f).toInt64.toUInt64).toInt64) = (0 : Int64) then (if ((p1.toUInt64 >>> ((28 : Int32) &&& 0x3f).toInt64.toUInt64).toInt64) = (0 : Int64) then (if ((p1.toUInt64 >>> ((21 : Int32) &&& 0x3f).toInt64.toUInt64).toInt64) = (0 : Int64) then (if ((p1.toUInt64 >>> ((14 : Int32) &&& 0x3f).toInt64.toUInt64).toInt64) = (0 : Int64) then (if ((p1.toUInt64 >>> ((7 : Int32) &&& 0x3f).toInt64.toUInt64).toInt64) = (0 : Int64) then (1 : Int32) else (2 : Int32)) else (3 : Int32)) else (4 : Int32)) else (5 : Int32)) else (6 : Int32)), .unset, .unset, .unset, .unset, .unset, .unset] []))
              rw [(((if_pos hb181).trans rfl) : (if ((p1.toUInt64 >>> ((42 : Int32) &&& 0x3f).toInt64.toUInt64).toInt64) = (0 : Int64) then (if ((p1.toUInt64 >>> ((35 : Int32) &&& 0x3f).toInt64.toUInt64).toInt64) = (0 : Int64) then (if ((p1.toUInt64 >>> ((28 : Int32) &&& 0x3f).toInt64.toUInt64).toInt64) = (0 : Int64) then (if ((p1.toUInt64 >>> ((21 : Int32) &&& 0x3f).toInt64.toUInt64).toInt64) = (0 : Int64) then (if ((p1.toUInt64 >>> ((14 : Int32) &&& 0x3f).toInt64.toUInt64).toInt64) = (0 : Int64) then (if ((p1.toUInt64 >>> ((7 : Int32) &&& 0x3f).toInt64.toUInt64).toInt64) = (0 : Int64) then (1 : Int32) else (2 : Int32)) else (3 : Int32)) else (4 : Int32)) else (5 : Int32)) else (6 : Int32)) else (7 : Int32)) = (if ((p1.toUInt64 >>> ((35 : Int32) &&& 0x3f).toInt64.toUInt64).toInt64) = (0 : Int64) then (if ((p1.toUInt64 >>> ((28 : Int32) &&& 0x3f).toInt64.toUInt64).toInt64) = (0 : Int64) then (if ((p1.toUInt64 >>> ((21 : Int32) &&& 0x3f).toInt64.toUInt64).toInt64) = (0 : Int64) then (if ((p1.toUInt64 >>> ((14 : Int32) &&& 0x3f).toInt64.toUInt64).toInt64) = (0 : Int64) then (if ((p1.toUInt64 >>> ((7 : Int32) &&& 0x3f).toInt64.toUInt64).toInt64) = (0 : Int64) then (1 : Int32) else (2 : Int32)) else (3 : Int32)) else (4 : Int32)) else (5 : Int32)) else (6 : Int32)))] at J6
              exact J6 _ _ XJ5 eJ5 NJ5
            · refine Goes.on (fun t k => XS.ifNo XJ5.here hx rfl (hb hby at_70) rfl ((if0 _ _).trans (feq (mt (lw_eq ((p1.toUInt64 >>> ((42 : Int32) &&& 0x3f).toInt64.toUInt64).toInt64) (0 : Int64)).mp hb181)).1) k) ?_
              show Goes p e below QQ (TJ5.setTop (mkF m 73 #[.val (.long p1), .second, .val (.long p2), .second, iv p3, iv p4, iv (if ((p1.toUInt64 >>> ((35 : Int32) &&& 0x3f).toInt64.toUInt64).toInt64) = (0 : Int64) then (if ((p1.toUInt64 >>> ((28 : Int32) &&& 0x3f).toInt64.toUInt64).toInt64) = (0 : Int64) then (if ((p1.toUInt64 >>> ((21 : Int32) &&& 0x3f).toInt64.toUInt64).toInt64) = (0 : Int64) then (if ((p1.toUInt64 >>> ((14 : Int32) &&& 0x3f).toInt64.toUInt64).toInt64) = (0 : Int64) then (if ((p1.toUInt64 >>> ((7 : Int32) &&& 0x3f).toInt64.toUInt64).toInt64) = (0 : Int64) then (1 : Int32) else (2 : Int32)) else (3 : Int32)) else (4 : Int32)) else (5 : Int32)) else (6 : Int32)), .unset, .unset, .unset, .unset, .unset, .unset] []))
              refine Goes.on (fun t k => XS.bipush XJ5.here hx rfl (hb hby at_73) k) ?_
              show Goes p e below QQ (TJ5.setTop (mkF m 75 #[.val (.long p1), .second, .val (.long p2), .second, iv p3, iv p4, iv (if ((p1.toUInt64 >>> ((35 : Int32) &&& 0x3f).toInt64.toUInt64).toInt64) = (0 : Int64) then (if ((p1.toUInt64 >>> ((28 : Int32) &&& 0x3f).toInt64.toUInt64).toInt64) = (0 : Int64) then (if ((p1.toUInt64 >>> ((21 : Int32) &&& 0x3f).toInt64.toUInt64).toInt64) = (0 : Int64) then (if ((p1.toUInt64 >>> ((14 : Int32) &&& 0x3f).toInt64.toUInt64).toInt64) = (0 : Int64) then (if ((p1.toUInt64 >>> ((7 : Int32) &&& 0x3f).toInt64.toUInt64).toInt64) = (0 : Int64) then (1 : Int32) else (2 : Int32)) else (3 : Int32)) else (4 : Int32)) else (5 : Int32)) else (6 : Int32)), .unset, .unset, .unset, .unset, .unset, .unset] [(.int 7)]))
              refine Goes.on (fun t k => XS.istore XJ5.here hx rfl (hb hby at_75) rfl (l' := #[.val (.long p1), .second, .val (.long p2), .second, iv p3, iv p4, iv 7, .unset, .unset, .unset, .unset, .unset, .unset]) rfl k) ?_
              show Goes p e below QQ (TJ5.setTop (mkF m 77 #[.val (.long p1), .second, .val (.long p2), .second, iv p3, iv p4, iv 7, .unset, .unset, .unset, .unset, .unset, .unset] []))
              rw [(((if_neg hb181).trans rfl) : (if ((p1.toUInt64 >>> ((42 : Int32) &&& 0x3f).toInt64.toUInt64).toInt64) = (0 : Int64) then (if ((p1.toUInt64 >>> ((35 : Int32) &&& 0x3f).toInt64.toUInt64).toInt64) = (0 : Int64) then (if ((p1.toUInt64 >>> ((28 : Int32) &&& 0x3f).toInt64.toUInt64).toInt64) = (0 : Int64) then (if ((p1.toUInt64 >>> ((21 : Int32) &&& 0x3f).toInt64.toUInt64).toInt64) = (0 : Int64) then (if ((p1.toUInt64 >>> ((14 : Int32) &&& 0x3f).toInt64.toUInt64).toInt64) = (0 : Int64) then (if ((p1.toUInt64 >>> ((7 : Int32) &&& 0x3f).toInt64.toUInt64).toInt64) = (0 : Int64) then (1 : Int32) else (2 : Int32)) else (3 : Int32)) else (4 : Int32)) else (5 : Int32)) else (6 : Int32)) else (7 : Int32)) = (7 : Int32))] at J6
              exact J6 _ _ XJ5 eJ5 NJ5
          show Goes p e below QQ (TJ4.setTop (mkF m 57 #[.val (.long p1), .second, .val (.long p2), .second, iv p3, iv p4, iv (if ((p1.toUInt64 >>> ((28 : Int32) &&& 0x3f).toInt64.toUInt64).toInt64) = (0 : Int64) then (if ((p1.toUInt64 >>> ((21 : Int32) &&& 0x3f).toInt64.toUInt64).toInt64) = (0 : Int64) then (if ((p1.toUInt64 >>> ((14 : Int32) &&& 0x3f).toInt64.toUInt64).toInt64) = (0 : Int64) then (if ((p1.toUInt64 >>> ((7 : Int32) &&& 0x3f).toInt64.toUInt64).toInt64) = (0 : Int64) then (1 : Int32) else (2 : Int32)) else (3 : Int32)) else (4 : Int32)) else (5 : Int32)), .unset, .unset, .unset, .unset, .unset, .unset] [(.int (lcmpW ((p1.toUInt64 >>> ((35 : Int32) &&& 0x3f).toInt64.toUInt64).toInt64) (0 : Int64)))]))
          by_cases hb182 : ((p1.toUInt64 >>> ((35 : Int32) &&& 0x3f).toInt64.toUInt64).toInt64) = (0 : Int64)
          · refine Goes.on (fun t k => XS.ifYes XJ4.here hx rfl (pc0 := 57) (pc' := 64) rfl (hb hby at_57) rfl ((if0 _ _).trans (teq ((lw_eq ((p1.toUInt64 >>> ((35 : Int32) &&& 0x3f).toInt64.toUInt64).toInt64) (0 : Int64)).mpr hb182)).1) (by decide) (by decide) k) ?_
            show Goes p e below QQ (TJ4.setTop (mkF m 64 #[.val (.long p1), .second, .val (.long p2), .second, iv p3, iv p4, iv (if ((p1.toUInt64 >>> ((28 : Int32) &&& 0x3f).toInt64.toUInt64).toInt64) = (0 : Int64) then (if ((p1.toUInt64 >>> ((21 : Int32) &&& 0x3f).toInt64.toUInt64).toInt64) = (0 : Int64) then (if ((p1.toUInt64 >>> ((14 : Int32) &&& 0x3f).toInt64.toUInt64).toInt64) = (0 : Int64) then (if ((p1.toUInt64 >>> ((7 : Int32) &&& 0x3f).toInt64.toUInt64).toInt64) = (0 : Int64) then (1 : Int32) else (2 : Int32)) else (3 : Int32)) else (4 : Int32)) else (5 : Int32)), .unset, .unset, .unset, .unset, .unset, .unset] []))
            rw [(((if_pos hb182).trans rfl) : (if ((p1.toUInt64 >>> ((35 : Int32) &&& 0x3f).toInt64.toUInt64).toInt64) = (0 : Int64) then (if ((p1.toUInt64 >>> ((28 : Int32) &&& 0x3f).toInt64.toUInt64).toInt64) = (0 : Int64) then (if ((p1.toUInt64 >>> ((21 : Int32) &&& 0x3f).toInt64.toUInt64).toInt64) = (0 : Int64) then (if ((p1.toUInt64 >>> ((14 : Int32) &&& 0x3f).toInt64.toUInt64).toInt64) = (0 : Int64) then (if ((p1.toUInt64 >>> ((7 : Int32) &&& 0x3f).toInt64.toUInt64).toInt64) = (0 : Int64) then (1 : Int32) else (2 : Int32)) else (3 : Int32)) else (4 : Int32)) else (5 : Int32)) else (6 : Int32)) = (if ((p1.toUInt64 >>> ((28 : Int32) &&& 0x3f).toInt64.toUInt64).toInt64) = (0 : Int64) then (if ((p1.toUInt64 >>> ((21 : Int32) &&& 0x3f).toInt64.toUInt64).toInt64) = (0 : Int64) then (if ((p1.toUInt64 >>> ((14 : Int32) &&& 0x3f).toInt64.toUInt64).toInt64) = (0 : Int64) then (if ((p1.toUInt64 >>> ((7 : Int32) &&& 0x3f).toInt64.toUInt64).toInt64) = (0 : Int64) then (1 : Int32) else (2 : Int32)) else (3 : Int32)) else (4 : Int32)) else (5 : Int32)))] at J5
            exact J5 _ _ XJ4 eJ4 NJ4
          · refine Goes.on (fun t k => XS.ifNo XJ4.here hx rfl (hb hby at_57) rfl ((if0 _ _).trans (feq (mt (lw_eq ((p1.toUInt64 >>> ((35 : Int32) &&& 0x3f).toInt64.toUInt64).toInt64) (0 : Int64)).mp hb182)).1) k) ?_
            show Goes p e below QQ (TJ4.setTop (mkF m 60 #[.val (.long p1), .second, .val (.long p2), .second, iv p3, iv p4, iv (if ((p1.toUInt64 >>> ((28 : Int32) &&& 0x3f).toInt64.toUInt64).toInt64) = (0 : Int64) then (if ((p1.toUInt64 >>> ((21 : Int32) &&& 0x3f).toInt64.toUInt64).toInt64) = (0 : Int64) then (if ((p1.toUInt64 >>> ((14 : Int32) &&& 0x3f).toInt64.toUInt64).toInt64) = (0 : Int64) then (if ((p1.toUInt64 >>> ((7 : Int32) &&& 0x3f).toInt64.toUInt64).toInt64) = (0 : Int64) then (1 : Int32) else (2 : Int32)) else (3 : Int32)) else (4 : Int32)) else (5 : Int32)), .unset, .unset, .unset, .unset, .unset, .unset] []))
            refine Goes.on (fun t k => XS.bipush XJ4.here hx rfl (hb hby at_60) k) ?_
            show Goes p e below QQ (TJ4.setTop (mkF m 62 #[.val (.long p1), .second, .val (.long p2), .second, iv p3, iv p4, iv (if ((p1.toUInt64 >>> ((28 : Int32) &&& 0x3f).toInt64.toUInt64).toInt64) = (0 : Int64) then (if ((p1.toUInt64 >>> ((21 : Int32) &&& 0x3f).toInt64.toUInt64).toInt64) = (0 : Int64) then (if ((p1.toUInt64 >>> ((14 : Int32) &&& 0x3f).toInt64.toUInt64).toInt64) = (0 : Int64) then (if ((p1.toUInt64 >>> ((7 : Int32) &&& 0x3f).toInt64.toUInt64).toInt64) = (0 : Int64) then (1 : Int32) else (2 : Int32)) else (3 : Int32)) else (4 : Int32)) else (5 : Int32)), .unset, .unset, .unset, .unset, .unset, .unset] [(.int 6)]))
            refine Goes.on (fun t k => XS.istore XJ4.here hx rfl (hb hby at_62) rfl (l' := #[.val (.long p1), .second, .val (.long p2), .second, iv p3, iv p4, iv 6, .unset, .unset, .unset, .unset, .unset, .unset]) rfl k) ?_
            show Goes p e below QQ (TJ4.setTop (mkF m 64 #[.val (.long p1), .second, .val (.long p2), .second, iv p3, iv p4, iv 6, .unset, .unset, .unset, .unset, .unset, .unset] []))
            rw [(((if_neg hb182).trans rfl) : (if ((p1.toUInt64 >>> ((35 : Int32) &&& 0x3f).toInt64.toUInt64).toInt64) = (0 : Int64) then (if ((p1.toUInt64 >>> ((28 : Int32) &&& 0x3f).toInt64.toUInt64).toInt64) = (0 : Int64) then (if ((p1.toUInt64 >>> ((21 : Int32) &&& 0x3f).toInt64.toUInt64).toInt64) = (0 : Int64) then (if ((p1.toUInt64 >>> ((14 : Int32) &&& 0x3f).toInt64.toUInt64).toInt64) = (0 : Int64) then (if ((p1.toUInt64 >>> ((7 : Int32) &&& 0x3f).toInt64.toUInt64).toInt64) = (0 : Int64) then (1 : Int32) else (2 : Int32)) else (3 : Int32)) else (4 : Int32)) else (5 : Int32)) else (6 : Int32)) = (6 : Int32))] at J5
            exact J5 _ _ XJ4 eJ4 NJ4
        show Goes p e below QQ (TJ3.setTop (mkF m 45 #[.val (.long p1), .second, .val (.long p2), .second, iv p3, iv p4, iv (if ((p1.toUInt64 >>> ((21 : Int32) &&& 0x3f).toInt64.toUInt64).toInt64) = (0 : Int64) then (if ((p1.toUInt64 >>> ((14 : Int32) &&& 0x3f).toInt64.toUInt64).toInt64) = (0 : Int64) then (if ((p1.toUInt64 >>> ((7 : Int32) &&& 0x3f).toInt64.toUInt64).toInt64) = (0 : Int64) then (1 : Int32) else (2 : Int32)) else (3 : Int32)) else (4 : Int32)), .unset, .unset, .unset, .unset, .unset, .unset] [(.int (lcmpW ((p1.toUInt64 >>> ((28 : Int32) &&& 0x3f).toInt64.toUInt64).toInt64) (0 : Int64)))]))
        by_cases hb183 : ((p1.toUInt64 >>> ((28 : Int32) &&& 0x3f).toInt64.toUInt64).toInt64) = (0 : Int64)
        · refine Goes.on (fun t k => XS.ifYes XJ3.here hx rfl (pc0 := 45) (pc' := 51) rfl (hb hby at_45) rfl ((if0 _ _).trans (teq ((lw_eq ((p1.toUInt64 >>> ((28 : Int32) &&& 0x3f).toInt64.toUInt64).toInt64) (0 : Int64)).mpr hb183)).1) (by decide) (by decide) k) ?_
          show Goes p e below QQ (TJ3.setTop (mkF m 51 #[.val (.long p1), .second, .val (.long p2), .second, iv p3, iv p4, iv (if ((p1.toUInt64 >>> ((21 : Int32) &&& 0x3f).toInt64.toUInt64).toInt64) = (0 : Int64) then (if ((p1.toUInt64 >>> ((14 : Int32) &&& 0x3f).toInt64.toUInt64).toInt64) = (0 : Int64) then (if ((p1.toUInt64 >>> ((7 : Int32) &&& 0x3f).toInt64.toUInt64).toInt64) = (0 : Int64) then (1 : Int32) else (2 : Int32)) else (3 : Int32)) else (4 : Int32)), .unset, .unset, .unset, .unset, .unset, .unset] []))
          rw [(((if_pos hb183).trans rfl) : (if ((p1.toUInt64 >>> ((28 : Int32) &&& 0x3f).toInt64.toUInt64).toInt64) = (0 : Int64) then (if ((p1.toUInt64 >>> ((21 : Int32) &&& 0x3f).toInt64.toUInt64).toInt64) = (0 : Int64) then (if ((p1.toUInt64 >>> ((14 : Int32) &&& 0x3f).toInt64.toUInt64).toInt64) = (0 : Int64) then (if ((p1.toUInt64 >>> ((7 : Int32) &&& 0x3f).toInt64.toUInt64).toInt64) = (0 : Int64) then (1 : Int32) else (2 : Int32)) else (3 : Int32)) else (4 : Int32)) else (5 : Int32)) = (if ((p1.toUInt64 >>> ((21 : Int32) &&& 0x3f).toInt64.toUInt64).toInt64) = (0 : Int64) then (if ((p1.toUInt64 >>> ((14 : Int32) &&& 0x3f).toInt64.toUInt64).toInt64) = (0 : Int64) then (if ((p1.toUInt64 >>> ((7 : Int32) &&& 0x3f).toInt64.toUInt64).toInt64) = (0 : Int64) then (1 : Int32) else (2 : Int32)) else (3 : Int32)) else (4 : Int32)))] at J4
          exact J4 _ _ XJ3 eJ3 NJ3
        · refine Goes.on (fun t k => XS.ifNo XJ3.here hx rfl (hb hby at_45) rfl ((if0 _ _).trans (feq (mt (lw_eq ((p1.toUInt64 >>> ((28 : Int32) &&& 0x3f).toInt64.toUInt64).toInt64) (0 : Int64)).mp hb183)).1) k) ?_
          show Goes p e below QQ (TJ3.setTop (mkF m 48 #[.val (.long p1), .second, .val (.long p2), .second, iv p3, iv p4, iv (if ((p1.toUInt64 >>> ((21 : Int32) &&& 0x3f).toInt64.toUInt64).toInt64) = (0 : Int64) then (if ((p1.toUInt64 >>> ((14 : Int32) &&& 0x3f).toInt64.toUInt64).toInt64) = (0 : Int64) then (if ((p1.toUInt64 >>> ((7 : Int32) &&& 0x3f).toInt64.toUInt64).toInt64) = (0 : Int64) then (1 : Int32) else (2 : Int32)) else (3 : Int32)) else (4 : Int32)), .unset, .unset, .unset, .unset, .unset, .unset] []))
          refine Goes.on (fun t k => XS.iconst XJ3.here hx rfl (hb hby at_48) k) ?_
          show Goes p e below QQ (TJ3.setTop (mkF m 49 #[.val (.long p1), .second, .val (.long p2), .second, iv p3, iv p4, iv (if ((p1.toUInt64 >>> ((21 : Int32) &&& 0x3f).toInt64.toUInt64).toInt64) = (0 : Int64) then (if ((p1.toUInt64 >>> ((14 : Int32) &&& 0x3f).toInt64.toUInt64).toInt64) = (0 : Int64) then (if ((p1.toUInt64 >>> ((7 : Int32) &&& 0x3f).toInt64.toUInt64).toInt64) = (0 : Int64) then (1 : Int32) else (2 : Int32)) else (3 : Int32)) else (4 : Int32)), .unset, .unset, .unset, .unset, .unset, .unset] [(.int 5)]))
          refine Goes.on (fun t k => XS.istore XJ3.here hx rfl (hb hby at_49) rfl (l' := #[.val (.long p1), .second, .val (.long p2), .second, iv p3, iv p4, iv 5, .unset, .unset, .unset, .unset, .unset, .unset]) rfl k) ?_
          show Goes p e below QQ (TJ3.setTop (mkF m 51 #[.val (.long p1), .second, .val (.long p2), .second, iv p3, iv p4, iv 5, .unset, .unset, .unset, .unset, .unset, .unset] []))
          rw [(((if_neg hb183).trans rfl) : (if ((p1.toUInt64 >>> ((28 : Int32) &&& 0x3f).toInt64.toUInt64).toInt64) = (0 : Int64) then (if ((p1.toUInt64 >>> ((21 : Int32) &&& 0x3f).toInt64.toUInt64).toInt64) = (0 : Int64) then (if ((p1.toUInt64 >>> ((14 : Int32) &&& 0x3f).toInt64.toUInt64).toInt64) = (0 : Int64) then (if ((p1.toUInt64 >>> ((7 : Int32) &&& 0x3f).toInt64.toUInt64).toInt64) = (0 : Int64) then (1 : Int32) else (2 : Int32)) else (3 : Int32)) else (4 : Int32)) else (5 : Int32)) = (5 : Int32))] at J4
          exact J4 _ _ XJ3 eJ3 NJ3
      show Goes p e below QQ (TJ2.setTop (mkF m 33 #[.val (.long p1), .second, .val (.long p2), .second, iv p3, iv p4, iv (if ((p1.toUInt64 >>> ((14 : Int32) &&& 0x3f).toInt64.toUInt64).toInt64) = (0 : Int64) then (if ((p1.toUInt64 >>> ((7 : Int32) &&& 0x3f).toInt64.toUInt64).toInt64) = (0 : Int64) then (1 : Int32) else (2 : Int32)) else (3 : Int32)), .unset, .unset, .unset, .unset, .unset, .unset] [(.int (lcmpW ((p1.toUInt64 >>> ((21 : Int32) &&& 0x3f).toInt64.toUInt64).toInt64) (0 : Int64)))]))
      by_cases hb184 : ((p1.toUInt64 >>> ((21 : Int32) &&& 0x3f).toInt64.toUInt64).toInt64) = (0 : Int64)
      · refine Goes.on (fun t k => XS.ifYes XJ2.here hx rfl (pc0 := 33) (pc' := 39) rfl (hb hby at_33) rfl ((if0 _ _).trans (teq ((lw_eq ((p1.toUInt64 >>> ((21 : Int32) &&& 0x3f).toInt64.toUInt64).toInt64) (0 : Int64)).mpr hb184)).1) (by decide) (by decide) k) ?_
        show Goes p e below QQ (TJ2.setTop (mkF m 39 #[.val (.long p1), .second, .val (.long p2), .second, iv p3, iv p4, iv (if ((p1.toUInt64 >>> ((14 : Int32) &&& 0x3f).toInt64.toUInt64).toInt64) = (0 : Int64) then (if ((p1.toUInt64 >>> ((7 : Int32) &&& 0x3f).toInt64.toUInt64).toInt64) = (0 : Int64) then (1 : Int32) else (2 : Int32)) else (3 : Int32)), .unset, .unset, .unset, .unset, .unset, .unset] []))
        rw [(((if_pos hb184).trans rfl) : (if ((p1.toUInt64 >>> ((21 : Int32) &&& 0x3f).toInt64.toUInt64).toInt64) = (0 : Int64) then (if ((p1.toUInt64 >>> ((14 : Int32) &&& 0x3f).toInt64.toUInt64).toInt64) = (0 : Int64) then (if ((p1.toUInt64 >>> ((7 : Int32) &&& 0x3f).toInt64.toUInt64).toInt64) = (0 : Int64) then (1 : Int32) else (2 : Int32)) else (3 : Int32)) else (4 : Int32)) = (if ((p1.toUInt64 >>> ((14 : Int32) &&& 0x3f).toInt64.toUInt64).toInt64) = (0 : Int64) then (if ((p1.toUInt64 >>> ((7 : Int32) &&& 0x3f).toInt64.toUInt64).toInt64) = (0 : Int64) then (1 : Int32) else (2 : Int32)) else (3 : Int32)))] at J3
        exact J3 _ _ XJ2 eJ2 NJ2
      · refine Goes.on (fun t k => XS.ifNo XJ2.here hx rfl (hb hby at_33) rfl ((if0 _ _).trans (feq (mt (lw_eq ((p1.toUInt64 >>> ((21 : Int32) &&& 0x3f).toInt64.toUInt64).toInt64) (0 : Int64)).mp hb184)).1) k) ?_
        show Goes p e below QQ (TJ2.setTop (mkF m 36 #[.val (.long p1), .second, .val (.long p2), .second, iv p3, iv p4, iv (if ((p1.toUInt64 >>> ((14 : Int32) &&& 0x3f).toInt64.toUInt64).toInt64) = (0 : Int64) then (if ((p1.toUInt64 >>> ((7 : Int32) &&& 0x3f).toInt64.toUInt64).toInt64) = (0 : Int64) then (1 : Int32) else (2 : Int32)) else (3 : Int32)), .unset, .unset, .unset, .unset, .unset, .unset] []))
        refine Goes.on (fun t k => XS.iconst XJ2.here hx rfl (hb hby at_36) k) ?_
        show Goes p e below QQ (TJ2.setTop (mkF m 37 #[.val (.long p1), .second, .val (.long p2), .second, iv p3, iv p4, iv (if ((p1.toUInt64 >>> ((14 : Int32) &&& 0x3f).toInt64.toUInt64).toInt64) = (0 : Int64) then (if ((p1.toUInt64 >>> ((7 : Int32) &&& 0x3f).toInt64.toUInt64).toInt64) = (0 : Int64) then (1 : Int32) else (2 : Int32)) else (3 : Int32)), .unset, .unset, .unset, .unset, .unset, .unset] [(.int 4)]))
        refine Goes.on (fun t k => XS.istore XJ2.here hx rfl (hb hby at_37) rfl (l' := #[.val (.long p1), .second, .val (.long p2), .second, iv p3, iv p4, iv 4, .unset, .unset, .unset, .unset, .unset, .unset]) rfl k) ?_
        show Goes p e below QQ (TJ2.setTop (mkF m 39 #[.val (.long p1), .second, .val (.long p2), .second, iv p3, iv p4, iv 4, .unset, .unset, .unset, .unset, .unset, .unset] []))
        rw [(((if_neg hb184).trans rfl) : (if ((p1.toUInt64 >>> ((21 : Int32) &&& 0x3f).toInt64.toUInt64).toInt64) = (0 : Int64) then (if ((p1.toUInt64 >>> ((14 : Int32) &&& 0x3f).toInt64.toUInt64).toInt64) = (0 : Int64) then (if ((p1.toUInt64 >>> ((7 : Int32) &&& 0x3f).toInt64.toUInt64).toInt64) = (0 : Int64) then (1 : Int32) else (2 : Int32)) else (3 : Int32)) else (4 : Int32)) = (4 : Int32))] at J3
        exact J3 _ _ XJ2 eJ2 NJ2
    show Goes p e below QQ (TJ1.setTop (mkF m 21 #[.val (.long p1), .second, .val (.long p2), .second, iv p3, iv p4, iv (if ((p1.toUInt64 >>> ((7 : Int32) &&& 0x3f).toInt64.toUInt64).toInt64) = (0 : Int64) then (1 : Int32) else (2 : Int32)), .unset, .unset, .unset, .unset, .unset, .unset] [(.int (lcmpW ((p1.toUInt64 >>> ((14 : Int32) &&& 0x3f).toInt64.toUInt64).toInt64) (0 : Int64)))]))
    by_cases hb185 : ((p1.toUInt64 >>> ((14 : Int32) &&& 0x3f).toInt64.toUInt64).toInt64) = (0 : Int64)
    · refine Goes.on (fun t k => XS.ifYes XJ1.here hx rfl (pc0 := 21) (pc' := 27) rfl (hb hby at_21) rfl ((if0 _ _).trans (teq ((lw_eq ((p1.toUInt64 >>> ((14 : Int32) &&& 0x3f).toInt64.toUInt64).toInt64) (0 : Int64)).mpr hb185)).1) (by decide) (by decide) k) ?_
      show Goes p e below QQ (TJ1.setTop (mkF m 27 #[.val (.long p1), .second, .val (.long p2), .second, iv p3, iv p4, iv (if ((p1.toUInt64 >>> ((7 : Int32) &&& 0x3f).toInt64.toUInt64).toInt64) = (0 : Int64) then (1 : Int32) else (2 : Int32)), .unset, .unset, .unset, .unset, .unset, .unset] []))
      rw [(((if_pos hb185).trans rfl) : (if ((p1.toUInt64 >>> ((14 : Int32) &&& 0x3f).toInt64.toUInt64).toInt64) = (0 : Int64) then (if ((p1.toUInt64 >>> ((7 : Int32) &&& 0x3f).toInt64.toUInt64).toInt64) = (0 : Int64) then (1 : Int32) else (2 : Int32)) else (3 : Int32)) = (if ((p1.toUInt64 >>> ((7 : Int32) &&& 0x3f).toInt64.toUInt64).toInt64) = (0 : Int64) then (1 : Int32) else (2 : Int32)))] at J2
      exact J2 _ _ XJ1 eJ1 NJ1
    · refine Goes.on (fun t k => XS.ifNo XJ1.here hx rfl (hb hby at_21) rfl ((if0 _ _).trans (feq (mt (lw_eq ((p1.toUInt64 >>> ((14 : Int32) &&& 0x3f).toInt64.toUInt64).toInt64) (0 : Int64)).mp hb185)).1) k) ?_
      show Goes p e below QQ (TJ1.setTop (mkF m 24 #[.val (.long p1), .second, .val (.long p2), .second, iv p3, iv p4, iv (if ((p1.toUInt64 >>> ((7 : Int32) &&& 0x3f).toInt64.toUInt64).toInt64) = (0 : Int64) then (1 : Int32) else (2 : Int32)), .unset, .unset, .unset, .unset, .unset, .unset] []))
      refine Goes.on (fun t k => XS.iconst XJ1.here hx rfl (hb hby at_24) k) ?_
      show Goes p e below QQ (TJ1.setTop (mkF m 25 #[.val (.long p1), .second, .val (.long p2), .second, iv p3, iv p4, iv (if ((p1.toUInt64 >>> ((7 : Int32) &&& 0x3f).toInt64.toUInt64).toInt64) = (0 : Int64) then (1 : Int32) else (2 : Int32)), .unset, .unset, .unset, .unset, .unset, .unset] [(.int 3)]))
      refine Goes.on (fun t k => XS.istore XJ1.here hx rfl (hb hby at_25) rfl (l' := #[.val (.long p1), .second, .val (.long p2), .second, iv p3, iv p4, iv 3, .unset, .unset, .unset, .unset, .unset, .unset]) rfl k) ?_
      show Goes p e below QQ (TJ1.setTop (mkF m 27 #[.val (.long p1), .second, .val (.long p2), .second, iv p3, iv p4, iv 3, .unset, .unset, .unset, .unset, .unset, .unset] []))
      rw [(((if_neg hb185).trans rfl) : (if ((p1.toUInt64 >>> ((14 : Int32) &&& 0x3f).toInt64.toUInt64).toInt64) = (0 : Int64) then (if ((p1.toUInt64 >>> ((7 : Int32) &&& 0x3f).toInt64.toUInt64).toInt64) = (0 : Int64) then (1 : Int32) else (2 : Int32)) else (3 : Int32)) = (3 : Int32))] at J2
      exact J2 _ _ XJ1 eJ1 NJ1
  show Goes p e below QQ (s₁.setTop (mkF m 9 #[.val (.long p1), .second, .val (.long p2), .second, iv p3, iv p4, iv 1, .unset, .unset, .unset, .unset, .unset, .unset] [(.int (lcmpW ((p1.toUInt64 >>> ((7 : Int32) &&& 0x3f).toInt64.toUInt64).toInt64) (0 : Int64)))]))
  by_cases hb186 : ((p1.toUInt64 >>> ((7 : Int32) &&& 0x3f).toInt64.toUInt64).toInt64) = (0 : Int64)
  · refine Goes.on (fun t k => XS.ifYes X0.here hx rfl (pc0 := 9) (pc' := 15) rfl (hb hby at_9) rfl ((if0 _ _).trans (teq ((lw_eq ((p1.toUInt64 >>> ((7 : Int32) &&& 0x3f).toInt64.toUInt64).toInt64) (0 : Int64)).mpr hb186)).1) (by decide) (by decide) k) ?_
    show Goes p e below QQ (s₁.setTop (mkF m 15 #[.val (.long p1), .second, .val (.long p2), .second, iv p3, iv p4, iv 1, .unset, .unset, .unset, .unset, .unset, .unset] []))
    rw [(((if_pos hb186).trans rfl) : (if ((p1.toUInt64 >>> ((7 : Int32) &&& 0x3f).toInt64.toUInt64).toInt64) = (0 : Int64) then (1 : Int32) else (2 : Int32)) = (1 : Int32))] at J1
    exact J1 _ _ X0 e0 N0
  · refine Goes.on (fun t k => XS.ifNo X0.here hx rfl (hb hby at_9) rfl ((if0 _ _).trans (feq (mt (lw_eq ((p1.toUInt64 >>> ((7 : Int32) &&& 0x3f).toInt64.toUInt64).toInt64) (0 : Int64)).mp hb186)).1) k) ?_
    show Goes p e below QQ (s₁.setTop (mkF m 12 #[.val (.long p1), .second, .val (.long p2), .second, iv p3, iv p4, iv 1, .unset, .unset, .unset, .unset, .unset, .unset] []))
    refine Goes.on (fun t k => XS.iconst X0.here hx rfl (hb hby at_12) k) ?_
    show Goes p e below QQ (s₁.setTop (mkF m 13 #[.val (.long p1), .second, .val (.long p2), .second, iv p3, iv p4, iv 1, .unset, .unset, .unset, .unset, .unset, .unset] [(.int 2)]))
    refine Goes.on (fun t k => XS.istore X0.here hx rfl (hb hby at_13) rfl (l' := #[.val (.long p1), .second, .val (.long p2), .second, iv p3, iv p4, iv 2, .unset, .unset, .unset, .unset, .unset, .unset]) rfl k) ?_
    show Goes p e below QQ (s₁.setTop (mkF m 15 #[.val (.long p1), .second, .val (.long p2), .second, iv p3, iv p4, iv 2, .unset, .unset, .unset, .unset, .unset, .unset] []))
    rw [(((if_neg hb186).trans rfl) : (if ((p1.toUInt64 >>> ((7 : Int32) &&& 0x3f).toInt64.toUInt64).toInt64) = (0 : Int64) then (1 : Int32) else (2 : Int32)) = (2 : Int32))] at J1
    exact J1 _ _ X0 e0 N0
set_option maxRecDepth 65536 in
set_option maxHeartbeats 40000000 in
theorem comes_1 {Post : Tables → Env → Array Value → State → Outcome → State → Prop} (hpost : ∀ tb e args s v u, (limb_1_1.after args s (.returned v) u = true ∧ limb_1_2.after args s (.returned v) u = true ∧ True) → FrameEnd s (.returned v) u (Jvm.fieldLocs frame_1_writes args s ++ Jvm.arrayLocs frame_1_arrays args s ++ Jvm.staticLocs frame_1_statics s) 24 128 → Post tb e args s (.returned v) u) :
    ArmFor flags0 classFile x code maxLocals ret World_1 tables_1 room_1 Calls_1 rest_1 Pre_1 Post := by
  intro l hfl _ _ p e ha hc hk s m args below hf hA hF happ hP
  obtain ⟨hcalls, hrest, hpre⟩ := hP
  obtain ⟨-, -, -, hnamed, -, -, -, hat⟩ := (Spec.applies_iff hf).mp happ
  obtain ⟨hg, hn⟩ := and_e (Cond.before_iff.mp (show (Jvm.Cond.and given_1 narrow_1).before args s = true from hpre))
  obtain ⟨hg0, hg1⟩ := and_e hg
  obtain ⟨ga1, hg2⟩ := and_e hg1
  obtain ⟨ga2, hg3⟩ := and_e hg2
  obtain ⟨ga3, hg4⟩ := and_e hg3
  obtain ⟨w0, w1, w2, w3, rfl⟩ : ∃ w0 w1 w2 w3 : Value, args = #[w0, w1, w2, w3] := by
    have hs : args.size = 4 := by simpa [Cond.value, given_1] using hg0
    obtain ⟨L⟩ := args
    match L, hs with
    | [w0, w1, w2, w3], _ => exact ⟨w0, w1, w2, w3, rfl⟩
  have hw := fun d (hd : d ∈ tables_1) => atoms_spec (ws := Jvm.Cond.code x code maxLocals ret :: tables_1) hat d (List.mem_cons_of_mem _ hd)
  have hfit : Fit s := fun {y c} hc i hi => by
    obtain ⟨ha, rfl⟩ := Array.getElem?_eq_some_iff.mp hc
    have q := List.all_eq_true.mp ((Array.all_eq_true_iff_forall_mem.mp hF) _ (Array.getElem_mem ha)) i (List.mem_range.mpr hi)
    simpa [Array.getElem?_eq_getElem hi] using q
  obtain ⟨hsets, hown0⟩ := atoms_of _ (rest_1_c_eq ▸ (show rest_1_c.before _ s = true from hrest))
  obtain ⟨i0, ei0⟩ := isL_v ga1
  obtain rfl : w0 = (.long i0) := Option.some.inj ei0
  obtain ⟨i1, ei1⟩ := isL_v ga2
  obtain rfl : w1 = (.long i1) := Option.some.inj ei1
  obtain ⟨i2, ei2⟩ := is_v ga3
  obtain rfl : w2 = (.int i2) := Option.some.inj ei2
  obtain ⟨i3, ei3⟩ := is_v hg4
  obtain rfl : w3 = (.int i3) := Option.some.inj ei3
  obtain ⟨xD, evD⟩ := exa_v (Cond.before_iff.mp (hsets _ (List.mem_of_getElem? (i := 7) rfl)))
  have ST_D : Sta s s.heap "java/util/ArrayList" "DEFAULTCAPACITY_EMPTY_ELEMENTDATA" "[Ljava/lang/Object;" (.ref xD) := Sta.start evD (Or.inr ⟨(hw _ (List.mem_of_getElem? (i := 24) rfl)), (hsets _ (List.mem_of_getElem? (i := 2) rfl))⟩)
  obtain ⟨n, o, h1, h2, h3, _, L, rfl, ⟨rfl, N⟩, hq⟩ := rm0 l s _ hw tables_1 i0 i1 i2 i3 xD s.heap s.heap.size (Nat.le_refl _) ST_D (Old.start s) p e ha hc hk s m _ below hf ((Spec.applies_iff_loose hf).mp happ).1 ⟨rfl, State.Warmed39.refl s, rfl⟩ trivial
  refine ⟨n, _, h1, h2, h3, hpost _ _ _ _ _ _ ⟨Cond.after_iff.mpr rfl, Cond.after_iff.mpr (eq_i res_at (Term.int_eval (1)) rfl), trivial⟩ ⟨hq.1, hq.2.1, (hq.2.2.sift fun y hy => Or.inr (N y hy)).mono (by decide) (by decide)⟩⟩
theorem main_1_1 : Claimed_1_1 := comes_1 fun _ _ _ _ _ _ h hF => ⟨h.1, hF⟩
theorem main_1_2 : Claimed_1_2 := comes_1 fun _ _ _ _ _ _ h hF => ⟨h.2.1, hF⟩
end Jvm.Pilot.@@N@@
namespace Jvm.Pilot.@@N@@
open Jvm Jvm.ClassFile Sem Op Lib Jvm.Free Jvm.Stand Jvm.Pilot.@@N@@.Jvm.D
/-! MADE BY PROGRAM (witnessworld.py) out of the Statement's table words and the real class files: 22 classes; the members and pool entries that the words name. The judged class is class 1, her method 1. -/
namespace start1
open Jvm.ClassFile
def u (s : String) : CpInfo := .utf8 (stringToUtf16 s)
/-- a pool by its gaps: so many unusable entries, then the entry; so many at the end -/
def gap : Nat → List CpInfo → List CpInfo
  | 0, r => r
  | n + 1, r => .unusable :: gap n r
def poolList (es : List (Nat × CpInfo)) (last : Nat) : List CpInfo := es.foldr (fun e r => gap e.1 (e.2 :: r)) (gap last [])
def pool (es : List (Nat × CpInfo)) (last : Nat) : Array CpInfo := ⟨poolList es last⟩
def fileOf (pool : Array CpInfo) (this : Nat) (attrs : Array Attribute := #[]) (ms : Array MethodInfo := #[]) (fl : Nat := 33) (sup : Nat := 0) (ifs : Array Nat := #[]) (fds : Array FieldInfo := #[]) : ClassFile where
  minorVersion := 0
  majorVersion := 65
  constantPool := pool
  accessFlags := fl
  thisClass := this
  superClass := sup
  interfaces := ifs
  fields := fds
  methods := ms
  attributes := attrs
def plain (name : String) (sup : Option ClassId) : Class where
  name := name
  kind := .ordinary
  loader := none
  accessFlags := 33
  super := sup
  interfaces := #[]
  cf := none
  fields := #[]
  methods := #[]
  instanceTypes := #[]
  staticTypes := #[]
  resolved := #[]
  callSites := []
  init := .initialized
  statics := none
  mirror := none

def pool0 : Array CpInfo := pool [(5, u "<init>"), (0, u "()V"), (1, .class_ 10), (1, u "java/lang/Object")] 113

def k0c0 : Code := { maxStack := 0, maxLocals := 1, code := object_method_1_code, exceptionTable := #[], attributes := #[] }
def k0m0 : Method := { name := "<init>", desc := "()V", sig := { parameters := [], returnType := none }, accessFlags := 1, code := some k0c0 }
/-- java/lang/Object -/
def k0 : Class := { plain "java/lang/Object" none with
  accessFlags := 33
  interfaces := #[]
  cf := some (fileOf pool0 8 #[] #[{ accessFlags := 1, nameIndex := 5, descriptorIndex := 6, attributes := #[] }] 33 0 #[] #[])
  fields := #[]
  methods := #[k0m0]
  instanceTypes := #[]
  staticTypes := #[]
  resolved := Array.replicate 124 none
  statics := none }

def pool1 : Array CpInfo := pool [(2, .class_ 4), (0, .nameAndType 5 6), (0, u "java/lang/Object"), (0, u "<init>"), (0, u "()V"), (0, .integer 2147483647), (0, .methodref 9 10), (0, .class_ 11), (0, .nameAndType 12 13), (0, u "com/example/lendgate/lendgate/circulation/DecoderCountPinLaw"), (0, u "jb"), (0, u "(JI)B"), (0, .methodref 9 15), (0, .nameAndType 16 17), (0, u "put"), (0, u "([BIIIJ)V"), (0, .class_ 19), (0, u "com/example/lendgate/lendgate/circulation/Decoder"), (0, .class_ 21), (0, u "com/example/lendgate/lendgate/circulation/Symbols"), (0, .methodref 20 3), (0, .methodref 18 24), (0, .nameAndType 5 25), (0, u "(Lcom/example/lendgate/lendgate/circulation/Symbols;[BI)V"), (0, .methodref 18 27), (0, .nameAndType 28 29), (0, u "count"), (0, u "()J"), (0, .methodref 18 31), (0, .nameAndType 32 33), (0, u "position"), (0, u "()I"), (0, .long 127), (3, u "law"), (0, u "(JJII)Z")] 5

def k1m0 : Method := { name := "<init>", desc := "()V", sig := { parameters := [], returnType := none }, accessFlags := 1, code := none }
def k1c1 : Code := { maxStack := 6, maxLocals := 13, code := code, exceptionTable := #[], attributes := #[] }
def k1m1 : Method := { name := "law", desc := "(JJII)Z", sig := { parameters := [.long, .long, .int, .int], returnType := some .boolean }, accessFlags := 9, code := some k1c1 }
def k1c2 : Code := { maxStack := 4, maxLocals := 3, code := method_3_code, exceptionTable := #[], attributes := #[] }
def k1m2 : Method := { name := "jb", desc := "(JI)B", sig := { parameters := [.long, .int], returnType := some .byte }, accessFlags := 10, code := some k1c2 }
def k1c3 : Code := { maxStack := 4, maxLocals := 7, code := method_4_code, exceptionTable := #[], attributes := #[] }
def k1m3 : Method := { name := "put", desc := "([BIIIJ)V", sig := { parameters := [(.array .byte), .int, .int, .int, .long], returnType := none }, accessFlags := 10, code := some k1c3 }
/-- com/example/lendgate/lendgate/circulation/DecoderCountPinLaw -/
def k1 : Class := { plain "com/example/lendgate/lendgate/circulation/DecoderCountPinLaw" (some 0) with
  accessFlags := 49
  interfaces := #[]
  cf := some (fileOf pool1 9 #[] #[{ accessFlags := 1, nameIndex := 5, descriptorIndex := 6, attributes := #[] }, { accessFlags := 9, nameIndex := 38, descriptorIndex := 39, attributes := #[] }, { accessFlags := 10, nameIndex := 12, descriptorIndex := 13, attributes := #[] }, { accessFlags := 10, nameIndex := 16, descriptorIndex := 17, attributes := #[] }] 49 2 #[] #[])
  fields := #[]
  methods := #[k1m0, k1m1, k1m2, k1m3]
  instanceTypes := #[]
  staticTypes := #[]
  resolved := Array.replicate 45 none
  statics := none }

def pool2 : Array CpInfo := pool [(1, .methodref 2 3), (0, .class_ 4), (0, .nameAndType 5 6), (0, u "java/lang/Object"), (0, u "<init>"), (0, u "()V"), (0, .fieldref 8 9), (0, .class_ 10), (0, .nameAndType 11 12), (0, u "com/example/lendgate/lendgate/circulation/Decoder"), (0, u "symbols"), (0, u "Lcom/example/lendgate/lendgate/circulation/Symbols;"), (0, .fieldref 8 14), (0, .nameAndType 15 16), (0, u "bytes"), (0, u "[B"), (0, .fieldref 8 18), (0, .nameAndType 19 20), (0, u "position"), (0, u "I"), (2, u "count"), (0, u "()J"), (32, .long 127), (9, u "(Lcom/example/lendgate/lendgate/circulation/Symbols;[BI)V"), (9, u "()I")] 17

def k2c0 : Code := { maxStack := 2, maxLocals := 4, code := prog_8_method_1_code, exceptionTable := #[], attributes := #[] }
def k2m0 : Method := { name := "<init>", desc := "(Lcom/example/lendgate/lendgate/circulation/Symbols;[BI)V", sig := { parameters := [(.object "com/example/lendgate/lendgate/circulation/Symbols"), (.array .byte), .int], returnType := none }, accessFlags := 0, code := some k2c0 }
def k2c1 : Code := { maxStack := 6, maxLocals := 5, code := prog_8_method_7_code, exceptionTable := #[], attributes := #[] }
def k2m1 : Method := { name := "count", desc := "()J", sig := { parameters := [], returnType := some .long }, accessFlags := 0, code := some k2c1 }
def k2c2 : Code := { maxStack := 1, maxLocals := 1, code := prog_8_method_8_code, exceptionTable := #[], attributes := #[] }
def k2m2 : Method := { name := "position", desc := "()I", sig := { parameters := [], returnType := some .int }, accessFlags := 0, code := some k2c2 }
/-- com/example/lendgate/lendgate/circulation/Decoder -/
def k2 : Class := { plain "com/example/lendgate/lendgate/circulation/Decoder" (some 0) with
  accessFlags := 48
  interfaces := #[]
  cf := some (fileOf pool2 8 #[] #[{ accessFlags := 0, nameIndex := 5, descriptorIndex := 67, attributes := #[] }, { accessFlags := 0, nameIndex := 23, descriptorIndex := 24, attributes := #[] }, { accessFlags := 0, nameIndex := 19, descriptorIndex := 77, attributes := #[] }] 48 2 #[] #[{ accessFlags := 18, nameIndex := 11, descriptorIndex := 12, attributes := #[] }, { accessFlags := 18, nameIndex := 15, descriptorIndex := 16, attributes := #[] }, { accessFlags := 2, nameIndex := 19, descriptorIndex := 20, attributes := #[] }])
  fields := #[{ name := "symbols", type := (.object "com/example/lendgate/lendgate/circulation/Symbols"), accessFlags := 18, slot := 0, constantValue := 0 }, { name := "bytes", type := (.array .byte), accessFlags := 18, slot := 1, constantValue := 0 }, { name := "position", type := .int, accessFlags := 2, slot := 2, constantValue := 0 }]
  methods := #[k2m0, k2m1, k2m2]
  instanceTypes := #[(.object "com/example/lendgate/lendgate/circulation/Symbols"), (.array .byte), .int]
  staticTypes := #[]
  resolved := Array.replicate 95 none
  statics := none }

def pool3 : Array CpInfo := pool [(1, .methodref 2 3), (0, .class_ 4), (0, .nameAndType 5 6), (0, u "java/lang/Object"), (0, u "<init>"), (0, u "()V"), (0, .class_ 8), (0, u "java/util/ArrayList"), (0, .methodref 7 3), (0, .fieldref 11 12), (0, .class_ 13), (0, .nameAndType 14 15), (0, u "com/example/lendgate/lendgate/circulation/Symbols"), (0, u "texts"), (0, u "Ljava/util/List;"), (0, .class_ 17), (0, u "java/util/HashMap"), (0, .methodref 16 3), (0, .fieldref 11 20), (0, .nameAndType 21 22), (0, u "numbers"), (0, u "Ljava/util/Map;")] 50

def k3c0 : Code := { maxStack := 3, maxLocals := 1, code := prog_11_method_1_code, exceptionTable := #[], attributes := #[] }
def k3m0 : Method := { name := "<init>", desc := "()V", sig := { parameters := [], returnType := none }, accessFlags := 0, code := some k3c0 }
/-- com/example/lendgate/lendgate/circulation/Symbols -/
def k3 : Class := { plain "com/example/lendgate/lendgate/circulation/Symbols" (some 0) with
  accessFlags := 48
  interfaces := #[]
  cf := some (fileOf pool3 11 #[] #[{ accessFlags := 0, nameIndex := 5, descriptorIndex := 6, attributes := #[] }] 48 2 #[] #[{ accessFlags := 18, nameIndex := 14, descriptorIndex := 15, attributes := #[] }, { accessFlags := 18, nameIndex := 21, descriptorIndex := 22, attributes := #[] }])
  fields := #[{ name := "texts", type := (.object "java/util/List"), accessFlags := 18, slot := 0, constantValue := 0 }, { name := "numbers", type := (.object "java/util/Map"), accessFlags := 18, slot := 1, constantValue := 0 }]
  methods := #[k3m0]
  instanceTypes := #[(.object "java/util/List"), (.object "java/util/Map")]
  staticTypes := #[]
  resolved := Array.replicate 73 none
  statics := none }

def pool4 : Array CpInfo := pool [(8, .class_ 10), (1, u "java/lang/Iterable"), (24, .class_ 36), (0, u "java/lang/Object")] 25

/-- java/lang/Iterable -/
def k4 : Class := { plain "java/lang/Iterable" (some 0) with
  accessFlags := 1537
  interfaces := #[]
  cf := some (fileOf pool4 8 #[] #[] 1537 35 #[] #[])
  fields := #[]
  methods := #[]
  instanceTypes := #[]
  staticTypes := #[]
  resolved := Array.replicate 62 none
  statics := none }

def pool5 : Array CpInfo := pool [(10, .class_ 12), (1, u "java/util/Collection"), (47, .class_ 61), (0, u "java/lang/Object"), (0, .class_ 63), (0, u "java/lang/Iterable")] 51

/-- java/util/Collection -/
def k5 : Class := { plain "java/util/Collection" (some 0) with
  accessFlags := 1537
  interfaces := #[4]
  cf := some (fileOf pool5 10 #[] #[] 1537 60 #[62] #[])
  fields := #[]
  methods := #[]
  instanceTypes := #[]
  staticTypes := #[]
  resolved := Array.replicate 115 none
  statics := none }

def pool6 : Array CpInfo := pool [(1, .methodref 2 3), (0, .class_ 4), (0, .nameAndType 5 6), (0, u "java/lang/Object"), (0, u "<init>"), (0, u "()V"), (1, .class_ 10), (1, u "java/util/AbstractCollection"), (66, .class_ 78), (0, u "java/util/Collection")] 81

def k6c0 : Code := { maxStack := 1, maxLocals := 1, code := jdk_22_method_1_code, exceptionTable := #[], attributes := #[] }
def k6m0 : Method := { name := "<init>", desc := "()V", sig := { parameters := [], returnType := none }, accessFlags := 4, code := some k6c0 }
/-- java/util/AbstractCollection -/
def k6 : Class := { plain "java/util/AbstractCollection" (some 0) with
  accessFlags := 1057
  interfaces := #[5]
  cf := some (fileOf pool6 8 #[] #[{ accessFlags := 4, nameIndex := 5, descriptorIndex := 6, attributes := #[] }] 1057 2 #[77] #[])
  fields := #[]
  methods := #[k6m0]
  instanceTypes := #[]
  staticTypes := #[]
  resolved := Array.replicate 160 none
  statics := none }

def pool7 : Array CpInfo := pool [(8, .class_ 10), (1, u "java/util/SequencedCollection"), (15, .class_ 27), (0, u "java/lang/Object"), (0, .class_ 29), (0, u "java/util/Collection")] 27

/-- java/util/SequencedCollection -/
def k7 : Class := { plain "java/util/SequencedCollection" (some 0) with
  accessFlags := 1537
  interfaces := #[5]
  cf := some (fileOf pool7 8 #[] #[] 1537 26 #[28] #[])
  fields := #[]
  methods := #[]
  instanceTypes := #[]
  staticTypes := #[]
  resolved := Array.replicate 57 none
  statics := none }

def pool8 : Array CpInfo := pool [(8, .class_ 10), (1, u "java/util/List"), (92, .class_ 104), (0, u "java/lang/Object"), (15, .class_ 121), (0, u "java/util/SequencedCollection")] 129

/-- java/util/List -/
def k8 : Class := { plain "java/util/List" (some 0) with
  accessFlags := 1537
  interfaces := #[7]
  cf := some (fileOf pool8 8 #[] #[] 1537 103 #[120] #[])
  fields := #[]
  methods := #[]
  instanceTypes := #[]
  staticTypes := #[]
  resolved := Array.replicate 251 none
  statics := none }

def pool9 : Array CpInfo := pool [(1, .methodref 2 3), (0, .class_ 4), (0, .nameAndType 5 6), (0, u "java/util/AbstractCollection"), (0, u "<init>"), (0, u "()V"), (0, .fieldref 8 9), (0, .class_ 10), (0, .nameAndType 11 12), (0, u "java/util/AbstractList"), (0, u "modCount"), (0, u "I"), (64, .class_ 78), (0, u "java/util/AbstractList$Itr"), (3, .class_ 83), (0, u "java/util/AbstractList$ListItr"), (9, .class_ 94), (0, u "java/util/AbstractList$RandomAccessSubList"), (3, .class_ 99), (0, u "java/util/AbstractList$SubList"), (33, .class_ 134), (0, u "java/util/List"), (73, .class_ 209), (0, u "java/util/AbstractList$SubList$1"), (0, .class_ 211), (0, u "java/util/AbstractList$RandomAccessSpliterator")] 6

def k9c0 : Code := { maxStack := 2, maxLocals := 1, code := jdk_39_method_1_code, exceptionTable := #[], attributes := #[] }
def k9m0 : Method := { name := "<init>", desc := "()V", sig := { parameters := [], returnType := none }, accessFlags := 4, code := some k9c0 }
/-- java/util/AbstractList -/
def k9 : Class := { plain "java/util/AbstractList" (some 6) with
  accessFlags := 1057
  interfaces := #[8]
  cf := some (fileOf pool9 8 #[.nestMembers #[93, 98, 208, 210, 82, 77]] #[{ accessFlags := 4, nameIndex := 5, descriptorIndex := 6, attributes := #[] }] 1057 2 #[133] #[{ accessFlags := 132, nameIndex := 11, descriptorIndex := 12, attributes := #[] }])
  fields := #[{ name := "modCount", type := .int, accessFlags := 132, slot := 0, constantValue := 0 }]
  methods := #[k9m0]
  instanceTypes := #[.int]
  staticTypes := #[]
  resolved := Array.replicate 218 none
  statics := none }

def pool10 : Array CpInfo := pool [(1, .class_ 2), (0, u "java/util/RandomAccess"), (0, .class_ 4), (0, u "java/lang/Object")] 2

/-- java/util/RandomAccess -/
def k10 : Class := { plain "java/util/RandomAccess" (some 0) with
  accessFlags := 1537
  interfaces := #[]
  cf := some (fileOf pool10 1 #[] #[] 1537 3 #[] #[])
  fields := #[]
  methods := #[]
  instanceTypes := #[]
  staticTypes := #[]
  resolved := Array.replicate 7 none
  statics := none }

def pool11 : Array CpInfo := pool [(1, .class_ 2), (0, u "java/lang/Cloneable"), (0, .class_ 4), (0, u "java/lang/Object")] 2

/-- java/lang/Cloneable -/
def k11 : Class := { plain "java/lang/Cloneable" (some 0) with
  accessFlags := 1537
  interfaces := #[]
  cf := some (fileOf pool11 1 #[] #[] 1537 3 #[] #[])
  fields := #[]
  methods := #[]
  instanceTypes := #[]
  staticTypes := #[]
  resolved := Array.replicate 7 none
  statics := none }

def pool12 : Array CpInfo := pool [(1, .class_ 2), (0, u "java/io/Serializable"), (0, .class_ 4), (0, u "java/lang/Object")] 2

/-- java/io/Serializable -/
def k12 : Class := { plain "java/io/Serializable" (some 0) with
  accessFlags := 1537
  interfaces := #[]
  cf := some (fileOf pool12 1 #[] #[] 1537 3 #[] #[])
  fields := #[]
  methods := #[]
  instanceTypes := #[]
  staticTypes := #[]
  resolved := Array.replicate 7 none
  statics := none }

def pool13 : Array CpInfo := pool [(1, .methodref 2 3), (0, .class_ 4), (0, .nameAndType 5 6), (0, u "java/util/AbstractList"), (0, u "<init>"), (0, u "()V"), (2, .fieldref 10 11), (0, .class_ 12), (0, .nameAndType 13 14), (0, u "java/util/ArrayList"), (0, u "elementData"), (0, u "[Ljava/lang/Object;"), (2, u "EMPTY_ELEMENTDATA"), (21, .fieldref 10 40), (0, .nameAndType 41 14), (0, u "DEFAULTCAPACITY_EMPTY_ELEMENTDATA"), (8, u "size"), (0, u "I"), (96, .class_ 149), (0, u "java/util/List"), (112, .class_ 263), (0, u "java/util/ArrayList$ListItr"), (3, .class_ 268), (0, u "java/util/ArrayList$Itr"), (7, .class_ 277), (0, u "java/util/ArrayList$SubList"), (12, .class_ 291), (0, u "java/util/ArrayList$ArrayListSpliterator"), (37, .class_ 330), (0, u "java/util/RandomAccess"), (0, .class_ 332), (0, u "java/lang/Cloneable"), (0, .class_ 334), (0, u "java/io/Serializable"), (0, u "serialVersionUID"), (0, u "J"), (3, u "DEFAULT_CAPACITY"), (159, .class_ 501), (0, u "java/util/ArrayList$SubList$2"), (0, .class_ 503), (0, u "java/util/ArrayList$SubList$1")] 5

def k13c0 : Code := { maxStack := 2, maxLocals := 1, code := jdk_38_method_2_code, exceptionTable := #[], attributes := #[] }
def k13m0 : Method := { name := "<init>", desc := "()V", sig := { parameters := [], returnType := none }, accessFlags := 1, code := some k13c0 }
/-- java/util/ArrayList -/
def k13 : Class := { plain "java/util/ArrayList" (some 9) with
  accessFlags := 33
  interfaces := #[8, 10, 11, 12]
  cf := some (fileOf pool13 10 #[.nestMembers #[290, 276, 500, 502, 262, 267]] #[{ accessFlags := 1, nameIndex := 5, descriptorIndex := 6, attributes := #[] }] 33 2 #[148, 329, 331, 333] #[{ accessFlags := 26, nameIndex := 335, descriptorIndex := 336, attributes := #[] }, { accessFlags := 26, nameIndex := 340, descriptorIndex := 51, attributes := #[] }, { accessFlags := 26, nameIndex := 17, descriptorIndex := 14, attributes := #[] }, { accessFlags := 26, nameIndex := 41, descriptorIndex := 14, attributes := #[] }, { accessFlags := 128, nameIndex := 13, descriptorIndex := 14, attributes := #[] }, { accessFlags := 2, nameIndex := 50, descriptorIndex := 51, attributes := #[] }])
  fields := #[{ name := "serialVersionUID", type := .long, accessFlags := 26, slot := 0, constantValue := 0 }, { name := "DEFAULT_CAPACITY", type := .int, accessFlags := 26, slot := 1, constantValue := 0 }, { name := "EMPTY_ELEMENTDATA", type := (.array (.object "java/lang/Object")), accessFlags := 26, slot := 2, constantValue := 0 }, { name := "DEFAULTCAPACITY_EMPTY_ELEMENTDATA", type := (.array (.object "java/lang/Object")), accessFlags := 26, slot := 3, constantValue := 0 }, { name := "elementData", type := (.array (.object "java/lang/Object")), accessFlags := 128, slot := 1, constantValue := 0 }, { name := "size", type := .int, accessFlags := 2, slot := 2, constantValue := 0 }]
  methods := #[k13m0]
  instanceTypes := #[.int, (.array (.object "java/lang/Object")), .int]
  staticTypes := #[.long, .int, (.array (.object "java/lang/Object")), (.array (.object "java/lang/Object"))]
  resolved := Array.replicate 509 none
  statics := some 0 }

def pool14 : Array CpInfo := pool [(2, .class_ 4), (1, u "java/util/Map"), (31, .class_ 37), (0, u "java/util/Map$Entry"), (55, .class_ 94), (0, u "java/lang/Object")] 168

/-- java/util/Map -/
def k14 : Class := { plain "java/util/Map" (some 0) with
  accessFlags := 1537
  interfaces := #[]
  cf := some (fileOf pool14 2 #[.nestMembers #[36]] #[] 1537 93 #[] #[])
  fields := #[]
  methods := #[]
  instanceTypes := #[]
  staticTypes := #[]
  resolved := Array.replicate 263 none
  statics := none }

def pool15 : Array CpInfo := pool [(1, .methodref 2 3), (0, .class_ 4), (0, .nameAndType 5 6), (0, u "java/lang/Object"), (0, u "<init>"), (0, u "()V"), (1, .class_ 10), (1, u "java/util/AbstractMap"), (42, .class_ 54), (0, u "java/util/Map"), (9, u "keySet"), (0, u "Ljava/util/Set;"), (0, .class_ 67), (0, u "java/util/AbstractMap$1"), (5, u "values"), (0, u "Ljava/util/Collection;"), (0, .class_ 76), (0, u "java/util/AbstractMap$2"), (104, .class_ 182), (0, u "java/util/AbstractMap$ViewCollection"), (0, .class_ 184), (0, u "java/util/AbstractMap$SimpleImmutableEntry"), (0, .class_ 186), (0, u "java/util/AbstractMap$SimpleEntry"), (0, .class_ 188), (0, u "java/util/AbstractMap$2$1"), (0, .class_ 190), (0, u "java/util/AbstractMap$1$1")] 5

def k15c0 : Code := { maxStack := 1, maxLocals := 1, code := jdk_71_method_1_code, exceptionTable := #[], attributes := #[] }
def k15m0 : Method := { name := "<init>", desc := "()V", sig := { parameters := [], returnType := none }, accessFlags := 4, code := some k15c0 }
/-- java/util/AbstractMap -/
def k15 : Class := { plain "java/util/AbstractMap" (some 0) with
  accessFlags := 1057
  interfaces := #[14]
  cf := some (fileOf pool15 8 #[.nestMembers #[181, 183, 185, 75, 187, 66, 189]] #[{ accessFlags := 4, nameIndex := 5, descriptorIndex := 6, attributes := #[] }] 1057 2 #[53] #[{ accessFlags := 128, nameIndex := 64, descriptorIndex := 65, attributes := #[] }, { accessFlags := 128, nameIndex := 73, descriptorIndex := 74, attributes := #[] }])
  fields := #[{ name := "keySet", type := (.object "java/util/Set"), accessFlags := 128, slot := 0, constantValue := 0 }, { name := "values", type := (.object "java/util/Collection"), accessFlags := 128, slot := 1, constantValue := 0 }]
  methods := #[k15m0]
  instanceTypes := #[(.object "java/util/Set"), (.object "java/util/Collection")]
  staticTypes := #[]
  resolved := Array.replicate 196 none
  statics := none }

def pool16 : Array CpInfo := pool [(40, .class_ 41), (0, u "java/util/HashMap"), (1, .methodref 44 45), (0, .class_ 46), (0, .nameAndType 47 48), (0, u "java/util/AbstractMap"), (0, u "<init>"), (0, u "()V"), (32, .fieldref 40 82), (0, .nameAndType 83 84), (0, u "loadFactor"), (0, u "F"), (5, u "threshold"), (0, u "I"), (0, .float 1061158912), (8, .class_ 103), (1, u "java/util/Map"), (0, u "size"), (2, u "table"), (0, u "[Ljava/util/HashMap$Node;"), (14, u "entrySet"), (39, .class_ 165), (1, u "java/util/HashMap$Node"), (14, .class_ 181), (0, u "java/util/HashMap$TreeNode"), (22, u "modCount"), (37, u "Ljava/util/Set;"), (0, .class_ 244), (0, u "java/util/HashMap$KeySet"), (18, .class_ 264), (0, u "java/util/HashMap$Values"), (3, .class_ 269), (0, u "java/util/HashMap$EntrySet"), (76, .class_ 348), (1, u "java/util/HashMap$UnsafeHolder"), (43, .class_ 393), (0, u "java/lang/Cloneable"), (0, .class_ 395), (0, u "java/io/Serializable"), (0, u "serialVersionUID"), (0, u "J"), (3, u "DEFAULT_INITIAL_CAPACITY"), (1, u "MAXIMUM_CAPACITY"), (0, u "DEFAULT_LOAD_FACTOR"), (0, u "TREEIFY_THRESHOLD"), (1, u "UNTREEIFY_THRESHOLD"), (1, u "MIN_TREEIFY_CAPACITY"), (186, .class_ 597), (0, u "java/util/HashMap$EntrySpliterator"), (0, .class_ 599), (0, u "java/util/HashMap$ValueSpliterator"), (0, .class_ 601), (0, u "java/util/HashMap$KeySpliterator"), (0, .class_ 603), (0, u "java/util/HashMap$HashMapSpliterator"), (0, .class_ 605), (0, u "java/util/HashMap$EntryIterator"), (0, .class_ 607), (0, u "java/util/HashMap$ValueIterator"), (0, .class_ 609), (0, u "java/util/HashMap$KeyIterator"), (0, .class_ 611), (0, u "java/util/HashMap$HashIterator")] 17

def k16c0 : Code := { maxStack := 2, maxLocals := 1, code := jdk_69_method_7_code, exceptionTable := #[], attributes := #[] }
def k16m0 : Method := { name := "<init>", desc := "()V", sig := { parameters := [], returnType := none }, accessFlags := 1, code := some k16c0 }
/-- java/util/HashMap -/
def k16 : Class := { plain "java/util/HashMap" (some 15) with
  accessFlags := 33
  interfaces := #[14, 11, 12]
  cf := some (fileOf pool16 40 #[.nestMembers #[180, 596, 598, 600, 602, 604, 606, 608, 610, 346, 268, 263, 243, 163]] #[{ accessFlags := 1, nameIndex := 47, descriptorIndex := 48, attributes := #[] }] 33 44 #[101, 392, 394] #[{ accessFlags := 26, nameIndex := 396, descriptorIndex := 397, attributes := #[] }, { accessFlags := 24, nameIndex := 401, descriptorIndex := 91, attributes := #[] }, { accessFlags := 24, nameIndex := 403, descriptorIndex := 91, attributes := #[] }, { accessFlags := 24, nameIndex := 404, descriptorIndex := 84, attributes := #[] }, { accessFlags := 24, nameIndex := 405, descriptorIndex := 91, attributes := #[] }, { accessFlags := 24, nameIndex := 407, descriptorIndex := 91, attributes := #[] }, { accessFlags := 24, nameIndex := 409, descriptorIndex := 91, attributes := #[] }, { accessFlags := 128, nameIndex := 107, descriptorIndex := 108, attributes := #[] }, { accessFlags := 128, nameIndex := 123, descriptorIndex := 242, attributes := #[] }, { accessFlags := 128, nameIndex := 104, descriptorIndex := 91, attributes := #[] }, { accessFlags := 128, nameIndex := 204, descriptorIndex := 91, attributes := #[] }, { accessFlags := 0, nameIndex := 90, descriptorIndex := 91, attributes := #[] }, { accessFlags := 16, nameIndex := 83, descriptorIndex := 84, attributes := #[] }])
  fields := #[{ name := "serialVersionUID", type := .long, accessFlags := 26, slot := 0, constantValue := 0 }, { name := "DEFAULT_INITIAL_CAPACITY", type := .int, accessFlags := 24, slot := 1, constantValue := 0 }, { name := "MAXIMUM_CAPACITY", type := .int, accessFlags := 24, slot := 2, constantValue := 0 }, { name := "DEFAULT_LOAD_FACTOR", type := .float, accessFlags := 24, slot := 3, constantValue := 0 }, { name := "TREEIFY_THRESHOLD", type := .int, accessFlags := 24, slot := 4, constantValue := 0 }, { name := "UNTREEIFY_THRESHOLD", type := .int, accessFlags := 24, slot := 5, constantValue := 0 }, { name := "MIN_TREEIFY_CAPACITY", type := .int, accessFlags := 24, slot := 6, constantValue := 0 }, { name := "table", type := (.array (.object "java/util/HashMap$Node")), accessFlags := 128, slot := 2, constantValue := 0 }, { name := "entrySet", type := (.object "java/util/Set"), accessFlags := 128, slot := 3, constantValue := 0 }, { name := "size", type := .int, accessFlags := 128, slot := 4, constantValue := 0 }, { name := "modCount", type := .int, accessFlags := 128, slot := 5, constantValue := 0 }, { name := "threshold", type := .int, accessFlags := 0, slot := 6, constantValue := 0 }, { name := "loadFactor", type := .float, accessFlags := 16, slot := 7, constantValue := 0 }]
  methods := #[k16m0]
  instanceTypes := #[(.object "java/util/Set"), (.object "java/util/Collection"), (.array (.object "java/util/HashMap$Node")), (.object "java/util/Set"), .int, .int, .int, .float]
  staticTypes := #[.long, .int, .int, .float, .int, .int, .int]
  resolved := Array.replicate 629 none
  statics := none }

/-- the primitive byte -/
def k17 : Class := { plain "byte" none with kind := .primitive 'B', accessFlags := 0x411 }
/-- [B -/
def k18 : Class := { plain "[B" (some 0) with kind := .array 17 .byte, interfaces := #[11, 12], accessFlags := 1041 }

/-- the primitive int -/
def k19 : Class := { plain "int" none with kind := .primitive 'I', accessFlags := 0x411 }
/-- [I -/
def k20 : Class := { plain "[I" (some 0) with kind := .array 19 .int, interfaces := #[11, 12], accessFlags := 1041 }

/-- [Ljava/lang/Object; -/
def k21 : Class := { plain "[Ljava/lang/Object;" (some 0) with kind := .array 0 (.object "java/lang/Object"), interfaces := #[11, 12], accessFlags := 1041 }

def heap : Heap := #[{ cls := 13, slots := #[.long 0, .int 0, .ref 1, .ref 2], vm := .statics 13 },
  { cls := 21, slots := #[], vm := .none },
  { cls := 21, slots := #[], vm := .none }]
def classes : Array Class := #[k0, k1, k2, k3, k4, k5, k6, k7, k8, k9, k10, k11, k12, k13, k14, k15, k16, k17, k18, k19, k20, k21]
def interned : List (Array UInt16 × Addr) := []
def slotsUsed : Nat := 4
def theMethod : MethodId := ⟨1, 1⟩
def args0 : Array Value := #[.long 5, .long 6, .int 2, .int 3]
def aboutOver (below : List Frame) : State where
  vm := { classes := classes, interned := interned.toArray }
  heap := heap
  slotsUsed := slotsUsed
  threads := #[{ frames := .invoking theMethod args0 :: below }]
def below0 : List Frame := [.native { method := ⟨0, 0⟩, args := #[] }]
def about1 : State := aboutOver below0
def p0 : Program := .bare "" "" ""
def e0 : Env := launch0.env 0 0 0
theorem w_frames : about1.frames = Frame.invoking theMethod args0 :: below0 := rfl
set_option maxRecDepth 65536 in
theorem w_args : argsFit about1.vm theMethod args0 = true := by decide +kernel
set_option maxRecDepth 65536 in
theorem w_heap : heapFits about1 = true := by decide +kernel
set_option maxRecDepth 65536 in
theorem w_runnable : about1.curStatus? = some .runnable := by decide +kernel
set_option maxRecDepth 65536 in
theorem w_alone : about1.alone = true := by decide +kernel
set_option maxRecDepth 65536 in
theorem w_named : about1.methodNamed? x = some theMethod := by decide +kernel
set_option maxRecDepth 65536 in
theorem w_hears : about1.hears theMethod below0 = true := by decide +kernel
set_option maxRecDepth 65536 in
theorem w_ripe : about1.ripe theMethod args0 below0 = true := by decide +kernel
theorem w_running : about1.status = .running := rfl
set_option maxRecDepth 65536 in
theorem w_room : about1.hasRoom e0.platform room_1 = true :=
  launch0.hasRoom_least _ room_1 (by decide +kernel) (by decide +kernel) (by decide +kernel) (by decide +kernel) (by decide +kernel) (by decide +kernel)
theorem allAtoms_all (ts : List Jvm.Cond) (a : Array Jvm.Value) (st : Jvm.State) : (allAtoms ts).before a st = ts.all (fun c => c.before a st) := by
  induction ts with
  | nil => rfl
  | cons c t ih =>
    show (Jvm.Cond.and c (allAtoms t)).before a st = _
    rw [Jvm.Cond.before_and, ih, List.all_cons]
def words1 : List Jvm.Cond := Jvm.Cond.code x code maxLocals ret :: tables_1
/-- a 'code' word, met by the world's own term for the bytes: nothing is compared byte by byte -/
theorem code_word {y : MethodName} {bytes : ByteArray} {mx : Nat} {rt : Option FieldType} {a : Array Value} {s : State} {m : MethodId} {meth : Method} {c : Code} (h1 : s.methodNamed? y = some m) (h2 : s.vm.method? m = some meth) (h3 : meth.code = some c) (h4 : c.code = bytes)
    (h5 : (c.maxLocals == mx && c.exceptionTable.isEmpty && decide (c.maxStack ≤ mostOperands) && decide (meth.sig.returnType = rt) && !meth.locks && decide (parseMethodDescriptor y.desc = some meth.sig)) = true) : (Jvm.Cond.code y bytes mx rt).before a s = true := by
  simp only [Bool.and_eq_true, beq_iff_eq, Bool.not_eq_true', decide_eq_true_eq] at h5
  obtain ⟨⟨⟨⟨⟨g1, g2⟩, g3⟩, g4⟩, g5⟩, g6⟩ := h5
  simp [Cond.before, Cond.holds, Cond.value, h1, h2, h3, h4, g1, g2, g3, g4, g5, g6]
def isCode : Jvm.Cond → Bool
  | .code _ _ _ _ => true
  | _ => false
theorem all_split {L : List Jvm.Cond} {P : Jvm.Cond → Bool} (h1 : L.all (fun c => isCode c || P c) = true) (h2 : ∀ c ∈ L.filter isCode, P c = true) : L.all P = true := by
  refine List.all_eq_true.mpr fun c hc => ?_
  have h := List.all_eq_true.mp h1 c hc
  rcases Bool.eq_false_or_eq_true (isCode c) with hi | hi
  · exact h2 c (List.mem_filter.mpr ⟨hc, hi⟩)
  · simpa [hi] using h
set_option maxRecDepth 65536 in
theorem w_c0 : (Jvm.Cond.code x code maxLocals ret).before args0 about1 = true := code_word (m := ⟨1, 1⟩) (meth := k1m1) (c := k1c1) (by decide +kernel) rfl rfl rfl (by decide +kernel)
set_option maxRecDepth 65536 in
theorem w_c1 : (Jvm.Cond.code ({ cls := "com/example/lendgate/lendgate/circulation/DecoderCountPinLaw", name := "jb", desc := "(JI)B" } : Jvm.MethodName) method_3_code (3 : Nat) (Option.some Jvm.ClassFile.FieldType.byte)).before args0 about1 = true := code_word (m := ⟨1, 2⟩) (meth := k1m2) (c := k1c2) (by decide +kernel) rfl rfl rfl (by decide +kernel)
set_option maxRecDepth 65536 in
theorem w_c2 : (Jvm.Cond.code ({ cls := "com/example/lendgate/lendgate/circulation/DecoderCountPinLaw", name := "put", desc := "([BIIIJ)V" } : Jvm.MethodName) method_4_code (7 : Nat) (Option.none : Option Jvm.ClassFile.FieldType)).before args0 about1 = true := code_word (m := ⟨1, 3⟩) (meth := k1m3) (c := k1c3) (by decide +kernel) rfl rfl rfl (by decide +kernel)
set_option maxRecDepth 65536 in
theorem w_c3 : (Jvm.Cond.code ({ cls := "com/example/lendgate/lendgate/circulation/Symbols", name := "<init>", desc := "()V" } : Jvm.MethodName) prog_11_method_1_code (1 : Nat) (Option.none : Option Jvm.ClassFile.FieldType)).before args0 about1 = true := code_word (m := ⟨3, 0⟩) (meth := k3m0) (c := k3c0) (by decide +kernel) rfl rfl rfl (by decide +kernel)
set_option maxRecDepth 65536 in
theorem w_c4 : (Jvm.Cond.code ({ cls := "java/lang/Object", name := "<init>", desc := "()V" } : Jvm.MethodName) object_method_1_code (1 : Nat) (Option.none : Option Jvm.ClassFile.FieldType)).before args0 about1 = true := code_word (m := ⟨0, 0⟩) (meth := k0m0) (c := k0c0) (by decide +kernel) rfl rfl rfl (by decide +kernel)
set_option maxRecDepth 65536 in
theorem w_c5 : (Jvm.Cond.code ({ cls := "java/util/ArrayList", name := "<init>", desc := "()V" } : Jvm.MethodName) jdk_38_method_2_code (1 : Nat) (Option.none : Option Jvm.ClassFile.FieldType)).before args0 about1 = true := code_word (m := ⟨13, 0⟩) (meth := k13m0) (c := k13c0) (by decide +kernel) rfl rfl rfl (by decide +kernel)
set_option maxRecDepth 65536 in
theorem w_c6 : (Jvm.Cond.code ({ cls := "java/util/AbstractList", name := "<init>", desc := "()V" } : Jvm.MethodName) jdk_39_method_1_code (1 : Nat) (Option.none : Option Jvm.ClassFile.FieldType)).before args0 about1 = true := code_word (m := ⟨9, 0⟩) (meth := k9m0) (c := k9c0) (by decide +kernel) rfl rfl rfl (by decide +kernel)
set_option maxRecDepth 65536 in
theorem w_c7 : (Jvm.Cond.code ({ cls := "java/util/AbstractCollection", name := "<init>", desc := "()V" } : Jvm.MethodName) jdk_22_method_1_code (1 : Nat) (Option.none : Option Jvm.ClassFile.FieldType)).before args0 about1 = true := code_word (m := ⟨6, 0⟩) (meth := k6m0) (c := k6c0) (by decide +kernel) rfl rfl rfl (by decide +kernel)
set_option maxRecDepth 65536 in
theorem w_c8 : (Jvm.Cond.code ({ cls := "java/util/HashMap", name := "<init>", desc := "()V" } : Jvm.MethodName) jdk_69_method_7_code (1 : Nat) (Option.none : Option Jvm.ClassFile.FieldType)).before args0 about1 = true := code_word (m := ⟨16, 0⟩) (meth := k16m0) (c := k16c0) (by decide +kernel) rfl rfl rfl (by decide +kernel)
set_option maxRecDepth 65536 in
theorem w_c9 : (Jvm.Cond.code ({ cls := "java/util/AbstractMap", name := "<init>", desc := "()V" } : Jvm.MethodName) jdk_71_method_1_code (1 : Nat) (Option.none : Option Jvm.ClassFile.FieldType)).before args0 about1 = true := code_word (m := ⟨15, 0⟩) (meth := k15m0) (c := k15c0) (by decide +kernel) rfl rfl rfl (by decide +kernel)
set_option maxRecDepth 65536 in
theorem w_c10 : (Jvm.Cond.code ({ cls := "com/example/lendgate/lendgate/circulation/Decoder", name := "<init>", desc := "(Lcom/example/lendgate/lendgate/circulation/Symbols;[BI)V" } : Jvm.MethodName) prog_8_method_1_code (4 : Nat) (Option.none : Option Jvm.ClassFile.FieldType)).before args0 about1 = true := code_word (m := ⟨2, 0⟩) (meth := k2m0) (c := k2c0) (by decide +kernel) rfl rfl rfl (by decide +kernel)
set_option maxRecDepth 65536 in
theorem w_c11 : (Jvm.Cond.code ({ cls := "com/example/lendgate/lendgate/circulation/Decoder", name := "count", desc := "()J" } : Jvm.MethodName) prog_8_method_7_code (5 : Nat) (Option.some Jvm.ClassFile.FieldType.long)).before args0 about1 = true := code_word (m := ⟨2, 1⟩) (meth := k2m1) (c := k2c1) (by decide +kernel) rfl rfl rfl (by decide +kernel)
set_option maxRecDepth 65536 in
theorem w_c12 : (Jvm.Cond.code ({ cls := "com/example/lendgate/lendgate/circulation/Decoder", name := "position", desc := "()I" } : Jvm.MethodName) prog_8_method_8_code (1 : Nat) (Option.some Jvm.ClassFile.FieldType.int)).before args0 about1 = true := code_word (m := ⟨2, 2⟩) (meth := k2m2) (c := k2c2) (by decide +kernel) rfl rfl rfl (by decide +kernel)
def codes1 : List Jvm.Cond := [Jvm.Cond.code x code maxLocals ret, Jvm.Cond.code ({ cls := "com/example/lendgate/lendgate/circulation/DecoderCountPinLaw", name := "jb", desc := "(JI)B" } : Jvm.MethodName) method_3_code (3 : Nat) (Option.some Jvm.ClassFile.FieldType.byte), Jvm.Cond.code ({ cls := "com/example/lendgate/lendgate/circulation/DecoderCountPinLaw", name := "put", desc := "([BIIIJ)V" } : Jvm.MethodName) method_4_code (7 : Nat) (Option.none : Option Jvm.ClassFile.FieldType), Jvm.Cond.code ({ cls := "com/example/lendgate/lendgate/circulation/Symbols", name := "<init>", desc := "()V" } : Jvm.MethodName) prog_11_method_1_code (1 : Nat) (Option.none : Option Jvm.ClassFile.FieldType), Jvm.Cond.code ({ cls := "java/lang/Object", name := "<init>", desc := "()V" } : Jvm.MethodName) object_method_1_code (1 : Nat) (Option.none : Option Jvm.ClassFile.FieldType), Jvm.Cond.code ({ cls := "java/util/ArrayList", name := "<init>", desc := "()V" } : Jvm.MethodName) jdk_38_method_2_code (1 : Nat) (Option.none : Option Jvm.ClassFile.FieldType), Jvm.Cond.code ({ cls := "java/util/AbstractList", name := "<init>", desc := "()V" } : Jvm.MethodName) jdk_39_method_1_code (1 : Nat) (Option.none : Option Jvm.ClassFile.FieldType), Jvm.Cond.code ({ cls := "java/util/AbstractCollection", name := "<init>", desc := "()V" } : Jvm.MethodName) jdk_22_method_1_code (1 : Nat) (Option.none : Option Jvm.ClassFile.FieldType), Jvm.Cond.code ({ cls := "java/util/HashMap", name := "<init>", desc := "()V" } : Jvm.MethodName) jdk_69_method_7_code (1 : Nat) (Option.none : Option Jvm.ClassFile.FieldType), Jvm.Cond.code ({ cls := "java/util/AbstractMap", name := "<init>", desc := "()V" } : Jvm.MethodName) jdk_71_method_1_code (1 : Nat) (Option.none : Option Jvm.ClassFile.FieldType), Jvm.Cond.code ({ cls := "com/example/lendgate/lendgate/circulation/Decoder", name := "<init>", desc := "(Lcom/example/lendgate/lendgate/circulation/Symbols;[BI)V" } : Jvm.MethodName) prog_8_method_1_code (4 : Nat) (Option.none : Option Jvm.ClassFile.FieldType), Jvm.Cond.code ({ cls := "com/example/lendgate/lendgate/circulation/Decoder", name := "count", desc := "()J" } : Jvm.MethodName) prog_8_method_7_code (5 : Nat) (Option.some Jvm.ClassFile.FieldType.long), Jvm.Cond.code ({ cls := "com/example/lendgate/lendgate/circulation/Decoder", name := "position", desc := "()I" } : Jvm.MethodName) prog_8_method_8_code (1 : Nat) (Option.some Jvm.ClassFile.FieldType.int)]
set_option maxRecDepth 65536 in
theorem codes_eq : words1.filter isCode = codes1 := rfl
theorem w_codes : ∀ c ∈ words1.filter isCode, c.before args0 about1 = true := by
  rw [codes_eq]
  intro c hc
  simp only [codes1, List.mem_cons, List.not_mem_nil, or_false] at hc
  rcases hc with rfl | rfl | rfl | rfl | rfl | rfl | rfl | rfl | rfl | rfl | rfl | rfl | rfl
  · exact w_c0
  · exact w_c1
  · exact w_c2
  · exact w_c3
  · exact w_c4
  · exact w_c5
  · exact w_c6
  · exact w_c7
  · exact w_c8
  · exact w_c9
  · exact w_c10
  · exact w_c11
  · exact w_c12
set_option maxRecDepth 65536 in
theorem w_t1 : (words1.take 24).all (fun c => isCode c || c.before args0 about1) = true := by decide +kernel
set_option maxRecDepth 65536 in
theorem w_t2 : ((words1.drop 24).take 24).all (fun c => isCode c || c.before args0 about1) = true := by decide +kernel
set_option maxRecDepth 65536 in
theorem w_t3 : (((words1.drop 24).drop 24).take 24).all (fun c => isCode c || c.before args0 about1) = true := by decide +kernel
set_option maxRecDepth 65536 in
theorem w_t4 : (((words1.drop 24).drop 24).drop 24).all (fun c => isCode c || c.before args0 about1) = true := by decide +kernel
theorem w_tables : (allAtoms (Jvm.Cond.code x code maxLocals ret :: tables_1)).before args0 about1 = true := by
  rw [allAtoms_all]
  show words1.all (fun c => c.before args0 about1) = true
  refine all_split ?_ w_codes
  rw [← List.take_append_drop 24 words1, List.all_append, w_t1, ← List.take_append_drop 24 (words1.drop 24), List.all_append, w_t2, ← List.take_append_drop 24 ((words1.drop 24).drop 24), List.all_append, w_t3, w_t4]
  rfl
set_option maxRecDepth 65536 in
theorem w_rest : rest_1_c.before args0 about1 = true := by decide +kernel
set_option maxRecDepth 65536 in
theorem w_case : (Jvm.Cond.and given_1 narrow_1).before args0 about1 = true := by decide +kernel
theorem w_applies : (headSpec (Jvm.Cond.code x code maxLocals ret :: tables_1) room_1).applies x e0.platform about1 = true :=
  (Spec.applies_iff w_frames).mpr ⟨w_running, w_runnable, w_alone, w_named, w_hears, w_ripe, w_room, w_tables⟩
theorem atStart : AtStart classFile x code maxLocals ret World_1 tables_1 room_1 Calls_1 rest_1 Pre_1 launch0 p0 e0 about1 theMethod args0 below0 :=
  ⟨lists_1, trivial, launch0.admits_env _ _ _, launch0.least_env, fairChoices_fair.cas, fairChoices_fair.clock, w_frames, w_args, w_heap, w_applies, trivial, w_rest, w_case⟩
end start1
theorem witness_1 : WitnessClaimed_1 := ⟨start1.p0, start1.e0, start1.about1, start1.theMethod, start1.args0, start1.below0, start1.atStart⟩
end Jvm.Pilot.@@N@@
