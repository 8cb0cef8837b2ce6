import JvmDerived
import JvmDerived.Pilot.@@N@@Statement
import JvmDerived.Pilot.@@N@@Code
set_option linter.unusedVariables false
set_option linter.unusedSimpArgs false
namespace Jvm.Pilot.@@N@@
open Jvm Jvm.ClassFile Sem Op Lib Jvm.Free Jvm.Stand Jvm.LawKit Jvm.RoadKit Bundle Jvm.Pilot.@@N@@.Jvm.D
/-! from the state S the run comes to an end that QQ allows -/
def Goes (p : Program) (e : Env) (below : List Frame) (QQ : Outcome → State → Prop) (S : State) : Prop :=
  ∃ s₂ o, Steps p.tables e below S s₂ ∧ s₂.status = .running ∧ Ended s₂ below o ∧ QQ o s₂
theorem Goes.on {p : Program} {e : Env} {below : List Frame} {QQ : Outcome → State → Prop} {S S' : State} (h : ∀ t, Steps p.tables e below S' t → Steps p.tables e below S t) (g : Goes p e below QQ S') : Goes p e below QQ S := by
  obtain ⟨s₂, o, h1, h2⟩ := g
  exact ⟨s₂, o, h _ h1, h2⟩
theorem wI {T : List Cond} {a0 : Array Value} {Z : State} (hw : ∀ d ∈ T, d.before a0 Z = true) (i : Nat) {d : Cond} (h : T[i]? = some d) : d.before a0 Z = true := hw _ (List.mem_of_getElem? h)
theorem G1 {p : Program} {e : Env} {below : List Frame} {QQ : Outcome → State → Prop} {S S' : State} (h : ∀ {t}, Steps p.tables e below S' t → Steps p.tables e below S t) (g : Goes p e below QQ S') : Goes p e below QQ S := Goes.on (fun _ => h) g
abbrev Gs (p : Program) (e : Env) (below : List Frame) (QQ : Outcome → State → Prop) (T : State) (m : MethodId) (pc : Nat) (ls : Array Slot) (st : List Value) : Prop := Goes p e below QQ (T.setTop (mkF m pc ls st))
theorem Goes.cast {p : Program} {e : Env} {below : List Frame} {QQ : Outcome → State → Prop} {T : State} {g g' : JFrame} (q : g = g') (k : Goes p e below QQ (T.setTop g')) : Goes p e below QQ (T.setTop g) := q ▸ k
def EndsQ (s : State) (Q : Option Value → Heap → List Loc → Prop) (kc ks : Nat) (o : Outcome) (U' : State) : Prop := ∃ v L, o = .returned v ∧ Q v U'.heap L ∧ FrameEnd s o U' L kc ks
/-- a result alone -/
def QP (x : Value) (h0 : Heap) (n0 : Nat) (v : Option Value) (h : Heap) (L : List Loc) : Prop := v = some x ∧ Fr n0 L ∧ h = h0
theorem own_enter {l : Launch} {y : MethodName} {bytes : ByteArray} {maxL : Nat} {rt : Option FieldType} {ws : List Jvm.Cond} {rm : Room} {as' : Array Value} {Q : Option Value → Heap → List Loc → Prop} {Z : State} {h0 : Heap} {kc ks : Nat} (hp : plainFor y = true)
    (body : ∀ (p : Program) (e : Env) (s : State) (m : MethodId) (below : List Frame) (meth : Method) (c : Code) (s₁ : State) (QQ : Outcome → State → Prop), (∀ o U', EndsQ s Q kc ks o U' → QQ o U') → p.tables.exec = Jvm.exec → c.code = bytes → c.maxLocals = maxL → s.vm.findClass y.cls = some m.cls → meth.name = y.name → meth.sig.returnType = rt → meth.locks = false → Z.Warmed39 s.vm → Stand p l e rm s m as' below meth c s₁ [] 0 0 → s₁.heap = h0 →
      Goes p e below QQ (s₁.setTop (entryFrame m as' maxL))) :
    MetFree l y (head1 (Jvm.Cond.code y bytes maxL rt :: ws) rm) (fun a U => a = as' ∧ Z.Warmed39 U.vm ∧ U.heap = h0) (fun _ _ _ _ _ => True) (fun _ U o U' => ∃ v L, o = .returned v ∧ Q v U'.heap L ∧ FrameEnd U o U' L kc ks) := by
  refine MetFree.of_bodySF hp hisR ?_
  intro p e s m args below meth c s₁ Bd hml0 hP hK
  obtain ⟨rfl, hZ, hh⟩ := hP
  exact body p e s m below meth c s₁ _ (fun o U' h => h) Bd.exec Bd.bytes hml0 (findClass_of_methodNamed Bd.named) (name_of_methodNamed Bd.named Bd.method).1 Bd.returns (BodyLoose.notSynchronized Bd) hZ (Stand.of_body Bd) (by rw [← hh, Bd.state]; rfl)
section Ret
variable {p : Program} {l : Launch} {e : Env} {R : Room} {s : State} {m : MethodId} {args : Array Value} {below : List Frame} {meth : Method} {c : Code} {T : State} {locs : List Loc} {cells slots kc ks : Nat} {QQ : Outcome → State → Prop} {Q : Option Value → Heap → List Loc → Prop}
theorem Goes.fin (X : Stand p l e R s m args below meth c T locs cells slots) (hlk : meth.locks = false) {v : Option Value} (hv : meth.sig.returnType = none → v = none) {g : JFrame}
    (step : ∀ fs : List Frame, (∀ (f : JFrame) (acts : List Action), f.method = m → f.locked = none → f.entered = [] → (doReturn e (T.setTop f) acts v).1 = T.setFrames fs) → Steps p.tables e below (T.setTop g) (T.setFrames fs))
    (hQQ : ∀ o U', EndsQ s Q kc ks o U' → QQ o U') (hq : Q v T.heap locs) (hc : cells ≤ kc) (hs : slots ≤ ks) : Goes p e below QQ (T.setTop g) := by
  obtain ⟨fs, hr, hrun, hended, hW, hsame⟩ := X.leave (v := v) hv hlk
  exact ⟨_, _, step fs hr, hrun, hended, hQQ _ _ ⟨v, locs, rfl, hq, ⟨v, rfl⟩, hW, hsame.mono hc hs⟩⟩
theorem Goes.rI (X : Stand p l e R s m args below meth c T locs cells slots) (hx : p.tables.exec = Jvm.exec) (hret : meth.sig.returnType = some .int) (hlk : meth.locks = false) {pc : Nat} {Ls : Array Slot} {z : Int32} {rest : List Value} (hd : decode c.code pc = .ok (.ireturn, 1))
    (hQQ : ∀ o U', EndsQ s Q kc ks o U' → QQ o U') (hq : Q (some (.int z)) T.heap locs) (hc : cells ≤ kc) (hs : slots ≤ ks) : Goes p e below QQ (T.setTop (mkF m pc Ls (.int z :: rest))) :=
  Goes.fin X hlk (v := some (.int z)) (fun h => by rw [hret] at h; cases h) (fun fs hr => retOut X hx hret rfl (Or.inl ⟨rfl, Or.inl rfl, z, rfl⟩) hd hr) hQQ hq hc hs
theorem Goes.rN (X : Stand p l e R s m args below meth c T locs cells slots) (hx : p.tables.exec = Jvm.exec) {t : FieldType} (hret : meth.sig.returnType = some t) (ht : t = .boolean ∨ t = .byte ∨ t = .char ∨ t = .short) (hlk : meth.locks = false) {pc : Nat} {Ls : Array Slot} {z : Int32} {rest : List Value} (hd : decode c.code pc = .ok (.ireturn, 1))
    (hQQ : ∀ o U', EndsQ s Q kc ks o U' → QQ o U') (hq : Q (some (.int (nar t z))) T.heap locs) (hc : cells ≤ kc) (hs : slots ≤ ks) : Goes p e below QQ (T.setTop (mkF m pc Ls (.int z :: rest))) :=
  Goes.fin X hlk (v := some (.int (nar t z))) (fun h => by rw [hret] at h; cases h) (fun fs hr => retN X hx hret ht hd hr) hQQ hq hc hs
theorem Goes.rJ (X : Stand p l e R s m args below meth c T locs cells slots) (hx : p.tables.exec = Jvm.exec) (hret : meth.sig.returnType = some .long) (hlk : meth.locks = false) {pc : Nat} {Ls : Array Slot} {z : Int64} {rest : List Value} (hd : decode c.code pc = .ok (.lreturn, 1))
    (hQQ : ∀ o U', EndsQ s Q kc ks o U' → QQ o U') (hq : Q (some (.long z)) T.heap locs) (hc : cells ≤ kc) (hs : slots ≤ ks) : Goes p e below QQ (T.setTop (mkF m pc Ls (.long z :: rest))) :=
  Goes.fin X hlk (v := some (.long z)) (fun h => by rw [hret] at h; cases h) (fun fs hr => retOut X hx hret rfl (Or.inr (Or.inl ⟨rfl, rfl, z, rfl⟩)) hd hr) hQQ hq hc hs
theorem Goes.rA (X : Stand p l e R s m args below meth c T locs cells slots) (hx : p.tables.exec = Jvm.exec) {t : FieldType} (hret : meth.sig.returnType = some t) (ht : t.isReference = true) {w : Value} (hw : w.isRef = true) (hlk : meth.locks = false) {pc : Nat} {Ls : Array Slot} {rest : List Value} (hd : decode c.code pc = .ok (.areturn, 1))
    (hQQ : ∀ o U', EndsQ s Q kc ks o U' → QQ o U') (hq : Q (some w) T.heap locs) (hc : cells ≤ kc) (hs : slots ≤ ks) : Goes p e below QQ (T.setTop (mkF m pc Ls (w :: rest))) :=
  Goes.fin X hlk (v := some w) (fun h => by rw [hret] at h; cases h) (fun fs hr => retOut X hx hret (by cases w <;> first | (cases hw; done) | (cases t <;> first | (cases ht; done) | rfl)) (Or.inr (Or.inr (Or.inr (Or.inr ⟨rfl, ht, hw⟩)))) hd hr) hQQ hq hc hs
theorem Goes.rV (X : Stand p l e R s m args below meth c T locs cells slots) (hx : p.tables.exec = Jvm.exec) (hret : meth.sig.returnType = none) (hlk : meth.locks = false) {pc : Nat} {Ls : Array Slot} (hd : decode c.code pc = .ok (.return_, 1))
    (hQQ : ∀ o U', EndsQ s Q kc ks o U' → QQ o U') (hq : Q none T.heap locs) (hc : cells ≤ kc) (hs : slots ≤ ks) : Goes p e below QQ (T.setTop (mkF m pc Ls [])) :=
  Goes.fin X hlk (v := none) (fun _ => rfl) (fun fs hr => X.returnOut hx hret hd hr) hQQ hq hc hs
end Ret
/-- what the law leaves: it returned 1, and nothing old was written -/
def QL (n0 : Nat) (v : Option Value) (h : Heap) (L : List Loc) : Prop := v = some (.int 1) ∧ Fr n0 L
/-- nothing returned, the heap as it was -/
def QV (h0 : Heap) (n0 : Nat) (v : Option Value) (h : Heap) (L : List Loc) : Prop := v = none ∧ Fr n0 L ∧ h = h0
theorem own_selects {Z : State} {a0 : Array Value} {y : MethodName} {n : Nat} (hi : (Jvm.Cond.instanceMethod y).before a0 Z = true) (hp : (Jvm.Cond.privateMethod y).before a0 Z = true) (wi : (Jvm.Cond.instantiable y.cls n).before a0 Z = true) (hy : y.cls ≠ "java/lang/invoke/MethodHandle" ∧ y.cls ≠ "java/lang/invoke/VarHandle") : (Jvm.Cond.selects y.cls y y).before a0 Z = true := by
  obtain ⟨mk, methM, hnamed, hmethM, hstM, habM⟩ := Cond.instanceMethod_spec hi
  have hpr := Cond.privateMethod_at hp mk methM hnamed hmethM
  have hsel := selectMethod_private (p := {}) (c := mk.cls) hmethM hpr
  have hf := State.methodFound?_of_named hnamed hy
  have hc := findClass_of_methodNamed hnamed
  obtain ⟨t, kt, g1, g2, g5, g7, -⟩ := Cond.instantiable_spec wi
  cases hc.symm.trans g1
  have g8 : kt.isInterface = false := by
    cases hi : kt.isInterface with
    | false => rfl
    | true => rw [hi] at g7; cases g7
  simp [Cond.before, Cond.holds, Cond.value, hc, hf, hnamed, hsel, g2, g8]
/-- the index's four fields -/
def Fs (Z : State) (h : Heap) (a1 : Addr) (hs sl : Value) (sh sz : Int32) : Prop := Fld Z h a1 "com/example/bindery/bindery/PartIndex" "hashes" "[I" hs ∧ Fld Z h a1 "com/example/bindery/bindery/PartIndex" "slots" "[I" sl ∧ Fld Z h a1 "com/example/bindery/bindery/PartIndex" "shift" "I" (.int sh) ∧ Fld Z h a1 "com/example/bindery/bindery/PartIndex" "size" "I" (.int sz)
def QMk (Z : State) (a1 b1 : Addr) (h0 : Heap) (n0 : Nat) (v : Option Value) (h : Heap) (L : List Loc) : Prop := ∃ (b : Addr) (kb : ClassId), v = none ∧ Fr n0 L ∧ Keep h0 h [a1] ∧ h0.size ≤ b ∧ Fs Z h a1 (.ref b1) (.ref b) 27 0 ∧ Arv Z h b kb .int (32 : Int32) (List.replicate 32 (.int (0 : Int32))) (.int (0 : Int32))
def QI0 (Z : State) (a1 : Addr) (nn : Int32) (h0 : Heap) (n0 : Nat) (v : Option Value) (h : Heap) (L : List Loc) : Prop := ∃ (b : Addr) (kb : ClassId), v = none ∧ Fr n0 L ∧ Keep h0 h [a1] ∧ h0.size ≤ b ∧ Fs Z h a1 (.ref b) .null 0 0 ∧ Arv Z h b kb .int nn [(.int (0 : Int32)), (.int (0 : Int32)), (.int (0 : Int32))] (.int (0 : Int32))
def QI1 (Z : State) (a1 : Addr) (nn : Int32) (h0 : Heap) (n0 : Nat) (v : Option Value) (h : Heap) (L : List Loc) : Prop := ∃ (b : Addr) (kb : ClassId) (d : Addr) (kd : ClassId), v = none ∧ Fr n0 L ∧ Keep h0 h [a1] ∧ h0.size ≤ b ∧ h0.size ≤ d ∧ b ≠ d ∧ Fs Z h a1 (.ref b) (.ref d) 27 0 ∧ Arv Z h b kb .int nn [(.int (0 : Int32)), (.int (0 : Int32)), (.int (0 : Int32))] (.int (0 : Int32)) ∧ Arv Z h d kd .int (32 : Int32) (List.replicate 32 (.int (0 : Int32))) (.int (0 : Int32))
def QCp (Z : State) (ls : List Value) (h0 : Heap) (n0 : Nat) (v : Option Value) (h : Heap) (L : List Loc) : Prop := ∃ (b : Addr) (kb : ClassId), v = some (.ref b) ∧ Fr n0 L ∧ Keep h0 h [] ∧ h0.size ≤ b ∧ Arv Z h b kb .int (4 : Int32) ls (.int (0 : Int32))
def QA0 (Z : State) (a1 b1 : Addr) (i : Int32) (sh : Int32) (h0 : Heap) (n0 : Nat) (v : Option Value) (h : Heap) (L : List Loc) : Prop := ∃ (b : Addr) (kb : ClassId) (nn y0 y1 y2 : Int32), v = none ∧ Fr n0 L ∧ Keep h0 h [a1, b1] ∧ n0 ≤ b ∧ (b = b1 ∨ h0.size ≤ b) ∧ a1 ≠ b ∧ i.toInt ≤ nn.toInt ∧ Fs Z h a1 (.ref b) .null sh i ∧ Arv Z h b kb .int nn [(.int y0), (.int y1), (.int y2)] (.int (0 : Int32))
def QPl (Z : State) (d1 : Addr) (kd : ClassId) (S : List Value) (h0 : Heap) (n0 : Nat) (v : Option Value) (h : Heap) (L : List Loc) : Prop := v = none ∧ Fr n0 L ∧ Keep h0 h [d1] ∧ Arv Z h d1 kd .int (32 : Int32) S (.int (0 : Int32))
def QA1 (Z : State) (a1 b1 d1 : Addr) (kb kd : ClassId) (nn i y0 y1 y2 : Int32) (S : List Value) (h0 : Heap) (n0 : Nat) (v : Option Value) (h : Heap) (L : List Loc) : Prop := v = none ∧ Fr n0 L ∧ Keep h0 h [a1, b1, d1] ∧ Fs Z h a1 (.ref b1) (.ref d1) 27 i ∧ Arv Z h b1 kb .int nn [(.int y0), (.int y1), (.int y2)] (.int (0 : Int32)) ∧ Arv Z h d1 kd .int (32 : Int32) S (.int (0 : Int32))
theorem d4_0 : decode jdk_29_method_65_code 0 = .ok (.iload_n 0, 1) := by decide +kernel
theorem d4_1 : decode jdk_29_method_65_code 1 = .ok (.iload_n 1, 1) := by decide +kernel
theorem d4_2 : decode jdk_29_method_65_code 2 = .ok (.if_icmp .lt 7, 3) := by decide +kernel
theorem d4_5 : decode jdk_29_method_65_code 5 = .ok (.iload_n 0, 1) := by decide +kernel
theorem d4_6 : decode jdk_29_method_65_code 6 = .ok (.goto 4, 3) := by decide +kernel
theorem d4_9 : decode jdk_29_method_65_code 9 = .ok (.iload_n 1, 1) := by decide +kernel
theorem d4_10 : decode jdk_29_method_65_code 10 = .ok (.ireturn, 1) := by decide +kernel
theorem pn_4 : plainFor (⟨"java/lang/Math", "max", "(II)I"⟩ : MethodName) = true := Jvm.Free.JP.mathPlain rfl (by decide +kernel)
theorem ef_rmMx (m : MethodId) (x0 : Int32) (x1 : Int32) : entryFrame m #[(.int x0), (.int x1)] 2 = mkF m 0 #[iv x0, iv x1] [] := by first | (simp [entryFrame, mkF, argsToLocals, Value.category]; done) | rfl
def maxF (p1 : Int32) (p2 : Int32) : Int32 := (if p1 < p2 then p2 else p1)
set_option maxRecDepth 65536 in
set_option maxHeartbeats 40000000 in
theorem rmMx (l : Launch) (Z : State) (a0 : Array Value) (hw : ∀ d ∈ tables_1, d.before a0 Z = true) (ws : List Jvm.Cond) (p1 : Int32) (p2 : Int32)  (h0 : Heap) (n0 : Nat) (Z0 : n0 ≤ h0.size)  :
    MetFree l (⟨"java/lang/Math", "max", "(II)I"⟩ : MethodName) (head1 (Jvm.Cond.code (⟨"java/lang/Math", "max", "(II)I"⟩ : MethodName) jdk_29_method_65_code 2 (some .int) :: ws) ({ frames := 0, cells := 0, slots := 0, locals := 0 } : Room)) (fun a U => a = #[(.int p1), (.int p2)] ∧ Z.Warmed39 U.vm ∧ U.heap = h0) (fun _ _ _ _ _ => True) (fun _ U o U' => ∃ v L, o = .returned v ∧ QP (.int (maxF p1 p2)) h0 n0 v U'.heap L ∧ FrameEnd U o U' L ({ frames := 0, cells := 0, slots := 0, locals := 0 } : Room).cells ({ frames := 0, cells := 0, slots := 0, locals := 0 } : Room).slots) := by
  refine own_enter pn_4 ?_
  intro p e s m below meth c s₁ QQ hQQ hx hby hml hown hnm hret hlk hZ X0 e0
  have hown : s.vm.findClass "java/lang/Math" = some m.cls := hown
  have hml : c.maxLocals = 2 := hml
  have hret : meth.sig.returnType = some .int := hret
  have N0 := Fr.nil n0
  have K0 := Keep.refl h0 []
  refine Goes.cast (ef_rmMx m p1 p2) ?_
  show Goes p e below QQ (s₁.setTop (mkF m 0 #[iv p1, iv p2] []))
  refine G1 (XS.iloadN X0.here hx rfl (hb hby d4_0) rfl) ?_
  refine G1 (XS.iloadN X0.here hx rfl (hb hby d4_1) rfl) ?_
  show Goes p e below QQ (s₁.setTop (mkF m 2 #[iv p1, iv p2] [(.int p2), (.int p1)]))
  by_cases hb1 : p1 < p2
  · refine G1 (XS.icmpYes X0.here hx rfl (pc0 := 2) (pc' := 9) rfl (hb hby d4_2) rfl (tlt hb1).1 (by decide) (by decide)) ?_
    show Gs p e below QQ s₁ m 9 #[iv p1, iv p2] []
    refine G1 (XS.iloadN X0.here hx rfl (hb hby d4_9) rfl) ?_
    show Goes p e below QQ (s₁.setTop (mkF m 10 #[iv p1, iv p2] [(.int p2)]))
    exact Goes.rI X0 hx hret hlk (hb hby d4_10) hQQ ⟨congrArg (fun z => some (Value.int z)) (((if_pos hb1).trans rfl) : (maxF p1 p2) = p2).symm, N0, e0⟩ (by decide) (by decide)
  · refine G1 (XS.icmpNo X0.here hx rfl (hb hby d4_2) rfl (flt hb1).1) ?_
    show Gs p e below QQ s₁ m 5 #[iv p1, iv p2] []
    refine G1 (XS.iloadN X0.here hx rfl (hb hby d4_5) rfl) ?_
    refine G1 (XS.goto X0.here hx rfl (pc0 := 6) (pc' := 10) rfl (hb hby d4_6) (by decide) (by decide)) ?_
    show Goes p e below QQ (s₁.setTop (mkF m 10 #[iv p1, iv p2] [(.int p1)]))
    exact Goes.rI X0 hx hret hlk (hb hby d4_10) hQQ ⟨congrArg (fun z => some (Value.int z)) (((if_neg hb1).trans rfl) : (maxF p1 p2) = p1).symm, N0, e0⟩ (by decide) (by decide)
theorem d5_0 : decode jdk_29_method_69_code 0 = .ok (.iload_n 0, 1) := by decide +kernel
theorem d5_1 : decode jdk_29_method_69_code 1 = .ok (.iload_n 1, 1) := by decide +kernel
theorem d5_2 : decode jdk_29_method_69_code 2 = .ok (.if_icmp .gt 7, 3) := by decide +kernel
theorem d5_5 : decode jdk_29_method_69_code 5 = .ok (.iload_n 0, 1) := by decide +kernel
theorem d5_6 : decode jdk_29_method_69_code 6 = .ok (.goto 4, 3) := by decide +kernel
theorem d5_9 : decode jdk_29_method_69_code 9 = .ok (.iload_n 1, 1) := by decide +kernel
theorem d5_10 : decode jdk_29_method_69_code 10 = .ok (.ireturn, 1) := by decide +kernel
theorem pn_5 : plainFor (⟨"java/lang/Math", "min", "(II)I"⟩ : MethodName) = true := Jvm.Free.JP.mathPlain rfl (by decide +kernel)
theorem ef_rmMn (m : MethodId) (x0 : Int32) (x1 : Int32) : entryFrame m #[(.int x0), (.int x1)] 2 = mkF m 0 #[iv x0, iv x1] [] := by first | (simp [entryFrame, mkF, argsToLocals, Value.category]; done) | rfl
def minF (p1 : Int32) (p2 : Int32) : Int32 := (if p2 < p1 then p2 else p1)
set_option maxRecDepth 65536 in
set_option maxHeartbeats 40000000 in
theorem rmMn (l : Launch) (Z : State) (a0 : Array Value) (hw : ∀ d ∈ tables_1, d.before a0 Z = true) (ws : List Jvm.Cond) (p1 : Int32) (p2 : Int32)  (h0 : Heap) (n0 : Nat) (Z0 : n0 ≤ h0.size)  :
    MetFree l (⟨"java/lang/Math", "min", "(II)I"⟩ : MethodName) (head1 (Jvm.Cond.code (⟨"java/lang/Math", "min", "(II)I"⟩ : MethodName) jdk_29_method_69_code 2 (some .int) :: ws) ({ frames := 0, cells := 0, slots := 0, locals := 0 } : Room)) (fun a U => a = #[(.int p1), (.int p2)] ∧ Z.Warmed39 U.vm ∧ U.heap = h0) (fun _ _ _ _ _ => True) (fun _ U o U' => ∃ v L, o = .returned v ∧ QP (.int (minF p1 p2)) h0 n0 v U'.heap L ∧ FrameEnd U o U' L ({ frames := 0, cells := 0, slots := 0, locals := 0 } : Room).cells ({ frames := 0, cells := 0, slots := 0, locals := 0 } : Room).slots) := by
  refine own_enter pn_5 ?_
  intro p e s m below meth c s₁ QQ hQQ hx hby hml hown hnm hret hlk hZ X0 e0
  have hown : s.vm.findClass "java/lang/Math" = some m.cls := hown
  have hml : c.maxLocals = 2 := hml
  have hret : meth.sig.returnType = some .int := hret
  have N0 := Fr.nil n0
  have K0 := Keep.refl h0 []
  refine Goes.cast (ef_rmMn m p1 p2) ?_
  show Goes p e below QQ (s₁.setTop (mkF m 0 #[iv p1, iv p2] []))
  refine G1 (XS.iloadN X0.here hx rfl (hb hby d5_0) rfl) ?_
  refine G1 (XS.iloadN X0.here hx rfl (hb hby d5_1) rfl) ?_
  show Goes p e below QQ (s₁.setTop (mkF m 2 #[iv p1, iv p2] [(.int p2), (.int p1)]))
  by_cases hb1 : p2 < p1
  · refine G1 (XS.icmpYes X0.here hx rfl (pc0 := 2) (pc' := 9) rfl (hb hby d5_2) rfl (tlt hb1).2.2.1 (by decide) (by decide)) ?_
    show Gs p e below QQ s₁ m 9 #[iv p1, iv p2] []
    refine G1 (XS.iloadN X0.here hx rfl (hb hby d5_9) rfl) ?_
    show Goes p e below QQ (s₁.setTop (mkF m 10 #[iv p1, iv p2] [(.int p2)]))
    exact Goes.rI X0 hx hret hlk (hb hby d5_10) hQQ ⟨congrArg (fun z => some (Value.int z)) (((if_pos hb1).trans rfl) : (minF p1 p2) = p2).symm, N0, e0⟩ (by decide) (by decide)
  · refine G1 (XS.icmpNo X0.here hx rfl (hb hby d5_2) rfl (flt hb1).2.2.1) ?_
    show Gs p e below QQ s₁ m 5 #[iv p1, iv p2] []
    refine G1 (XS.iloadN X0.here hx rfl (hb hby d5_5) rfl) ?_
    refine G1 (XS.goto X0.here hx rfl (pc0 := 6) (pc' := 10) rfl (hb hby d5_6) (by decide) (by decide)) ?_
    show Goes p e below QQ (s₁.setTop (mkF m 10 #[iv p1, iv p2] [(.int p1)]))
    exact Goes.rI X0 hx hret hlk (hb hby d5_10) hQQ ⟨congrArg (fun z => some (Value.int z)) (((if_neg hb1).trans rfl) : (minF p1 p2) = p1).symm, N0, e0⟩ (by decide) (by decide)
theorem d3_0 : decode prog_150_method_2_code 0 = .ok (.iload_n 0, 1) := by decide +kernel
theorem d3_1 : decode prog_150_method_2_code 1 = .ok (.iconst 0, 1) := by decide +kernel
theorem d3_2 : decode prog_150_method_2_code 2 = .ok (.invokestatic 21, 3) := by decide +kernel
theorem d3_5 : decode prog_150_method_2_code 5 = .ok (.ldc 27, 2) := by decide +kernel
theorem d3_7 : decode prog_150_method_2_code 7 = .ok (.invokestatic 28, 3) := by decide +kernel
theorem d3_10 : decode prog_150_method_2_code 10 = .ok (.ireturn, 1) := by decide +kernel
theorem pn_3 : plainFor (⟨"com/example/bindery/bindery/PartIndex", "room", "(I)I"⟩ : MethodName) = true := plainFor_of_name (show plainName "com/example/bindery/bindery/PartIndex" = true by first | (simp [plainName, overriddenIn]; done) | decide +kernel)
theorem ef_rmRo (m : MethodId) (x0 : Int32) : entryFrame m #[(.int x0)] 1 = mkF m 0 #[iv x0] [] := by first | (simp [entryFrame, mkF, argsToLocals, Value.category]; done) | rfl
theorem pd_0 : parseMethodDescriptor "(II)I" = some ⟨[.int, .int], some .int⟩ := by decide +kernel
def roomF (p1 : Int32) : Int32 := (minF (maxF p1 (0 : Int32)) (65536 : Int32))
set_option maxRecDepth 65536 in
set_option maxHeartbeats 40000000 in
theorem rmRo (l : Launch) (Z : State) (a0 : Array Value) (hw : ∀ d ∈ tables_1, d.before a0 Z = true) (ws : List Jvm.Cond) (p1 : Int32)  (h0 : Heap) (n0 : Nat) (Z0 : n0 ≤ h0.size)  :
    MetFree l (⟨"com/example/bindery/bindery/PartIndex", "room", "(I)I"⟩ : MethodName) (head1 (Jvm.Cond.code (⟨"com/example/bindery/bindery/PartIndex", "room", "(I)I"⟩ : MethodName) prog_150_method_2_code 1 (some .int) :: ws) ({ frames := 1, cells := 0, slots := 0, locals := 13 } : Room)) (fun a U => a = #[(.int p1)] ∧ Z.Warmed39 U.vm ∧ U.heap = h0) (fun _ _ _ _ _ => True) (fun _ U o U' => ∃ v L, o = .returned v ∧ QP (.int (roomF p1)) h0 n0 v U'.heap L ∧ FrameEnd U o U' L ({ frames := 1, cells := 0, slots := 0, locals := 13 } : Room).cells ({ frames := 1, cells := 0, slots := 0, locals := 13 } : Room).slots) := by
  refine own_enter pn_3 ?_
  intro p e s m below meth c s₁ QQ hQQ hx hby hml hown hnm hret hlk hZ X0 e0
  have hown : s.vm.findClass "com/example/bindery/bindery/PartIndex" = some m.cls := hown
  have hml : c.maxLocals = 1 := hml
  have hret : meth.sig.returnType = some .int := hret
  have N0 := Fr.nil n0
  have K0 := Keep.refl h0 []
  refine Goes.cast (ef_rmRo m p1) ?_
  show Goes p e below QQ (s₁.setTop (mkF m 0 #[iv p1] []))
  refine G1 (XS.iloadN X0.here hx rfl (hb hby d3_0) rfl) ?_
  refine G1 (XS.iconst X0.here hx rfl (hb hby d3_1)) ?_
  show Goes p e below QQ (s₁.setTop (mkF m 2 #[iv p1] [(.int 0), (.int p1)]))
  obtain ⟨_, _, ⟨T1, L1, k1, n1⟩, -, X1, ⟨Lc1, hQ1, l1, y1, z1⟩, st1⟩ := Jvm.LawKit.callS X0 hx (y := (⟨"java/lang/Math", "max", "(II)I"⟩ : MethodName)) hown (mvT hZ (wI hw 12 rfl)) (mvT hZ (wI hw 13 rfl)) (mvT hZ (wI hw 14 rfl)) (mvT hZ (wI hw 15 rfl)) (by decide) (backOf (W := 0) (rmMx l Z a0 hw [] p1 (0 : Int32) h0 n0 (Nat.le_trans Z0 K0.1) ) hZ (wI hw 15 rfl) (wI hw 14 rfl) (by decide) (by decide)) (g := (mkF m 2 #[iv p1] [(.int 0), (.int p1)])) rfl (by rw [hml]; rfl) (argsL := [(.int p1), (.int 0)]) (rest := []) (lenOf pd_0 rfl) rfl (by show 2 * 0 + _ ≤ _; exact Nat.le_of_eq rfl) (hb hby d3_2) (fun _ _ => ⟨rfl, e0, (by decide : 0 + 0 ≤ _), (by decide : 0 + 0 ≤ _)⟩)
  dsimp only [Pt.U, Pt.locs, Pt.cells, Pt.slots] at X1 l1 y1 z1 st1 hQ1
  have l1 := l1.symm; have y1 := y1.symm; have z1 := z1.symm; subst l1 y1 z1
  have X1 : Stand p l e ({ frames := 1, cells := 0, slots := 0, locals := 13 } : Room) s m #[(.int p1)] below meth c T1 _ 0 0 := X1
  obtain ⟨rfl, M1, e1⟩ := hQ1
  have N1 := Fr.app N0 M1
  refine Goes.on (fun t k => st1 _ k) ?_
  show Goes p e below QQ (T1.setTop (mkF m 5 #[iv p1] [(.int (maxF p1 (0 : Int32)))]))
  refine Goes.on (fun t k => X1.ldcInt hx hown (mvT hZ (wI hw 16 rfl)) (g := (mkF m 5 #[iv p1] [(.int (maxF p1 (0 : Int32)))])) rfl (hb hby d3_5) t k) ?_
  show Goes p e below QQ (T1.setTop (mkF m 7 #[iv p1] [(.int 65536), (.int (maxF p1 (0 : Int32)))]))
  obtain ⟨_, _, ⟨T2, L2, k2, n2⟩, -, X2, ⟨Lc2, hQ2, l2, y2, z2⟩, st2⟩ := Jvm.LawKit.callS X1 hx (y := (⟨"java/lang/Math", "min", "(II)I"⟩ : MethodName)) hown (mvT hZ (wI hw 17 rfl)) (mvT hZ (wI hw 18 rfl)) (mvT hZ (wI hw 14 rfl)) (mvT hZ (wI hw 19 rfl)) (by decide) (backOf (W := 0) (rmMn l Z a0 hw [] (maxF p1 (0 : Int32)) (65536 : Int32) h0 n0 (Nat.le_trans Z0 K0.1) ) hZ (wI hw 19 rfl) (wI hw 14 rfl) (by decide) (by decide)) (g := (mkF m 7 #[iv p1] [(.int 65536), (.int (maxF p1 (0 : Int32)))])) rfl (by rw [hml]; rfl) (argsL := [(.int (maxF p1 (0 : Int32))), (.int 65536)]) (rest := []) (lenOf pd_0 rfl) rfl (by show 2 * 0 + _ ≤ _; exact Nat.le_of_eq rfl) (hb hby d3_7) (fun _ _ => ⟨rfl, e1, (by decide : 0 + 0 ≤ _), (by decide : 0 + 0 ≤ _)⟩)
  dsimp only [Pt.U, Pt.locs, Pt.cells, Pt.slots] at X2 l2 y2 z2 st2 hQ2
  have l2 := l2.symm; have y2 := y2.symm; have z2 := z2.symm; subst l2 y2 z2
  have X2 : Stand p l e ({ frames := 1, cells := 0, slots := 0, locals := 13 } : Room) s m #[(.int p1)] below meth c T2 _ 0 0 := X2
  obtain ⟨rfl, M2, e2⟩ := hQ2
  have N2 := Fr.app N1 M2
  refine Goes.on (fun t k => st2 _ k) ?_
  show Goes p e below QQ (T2.setTop (mkF m 10 #[iv p1] [(.int (minF (maxF p1 (0 : Int32)) (65536 : Int32)))]))
  exact Goes.rI X2 hx hret hlk (hb hby d3_10) hQQ ⟨congrArg (fun z => some (Value.int z)) (rfl : (roomF p1) = (minF (maxF p1 (0 : Int32)) (65536 : Int32))).symm, N2, e2⟩ (by decide) (by decide)
theorem own_e (n : Int32) (k : Int) (h : n.toInt = k) : n.toInt = k := h
theorem own_nl0 (p1 : Int32) (hm : 16 ≤ p1.toInt ∧ p1.toInt < 32) : (0 : Int32) < p1 := by
  rw [Int32.lt_iff_toInt_lt, (by decide : (0 : Int32).toInt = 0)]; omega
theorem own_nl1 (p1 : Int32) (hm : 16 ≤ p1.toInt ∧ p1.toInt < 32) : p1 < (65536 : Int32) := by
  rw [Int32.lt_iff_toInt_lt, (by decide : (65536 : Int32).toInt = 65536)]; omega
theorem own_nl2 (p1 : Int32) (hm : 16 ≤ p1.toInt ∧ p1.toInt < 32) : p1 < (256 : Int32) := by
  rw [Int32.lt_iff_toInt_lt, (by decide : (256 : Int32).toInt = 256)]; omega
theorem own_nl3 (p1 : Int32) (hm : 16 ≤ p1.toInt ∧ p1.toInt < 32) : ¬ p1 < (16 : Int32) := by
  rw [Int32.lt_iff_toInt_lt, (by decide : (16 : Int32).toInt = 16)]; omega
theorem own_nl4 (p1 : Int32) (hm : 16 ≤ p1.toInt ∧ p1.toInt < 32) : ((p1.toUInt32 >>> ((4 : Int32) &&& 31).toUInt32).toInt32) = (1 : Int32) := by
  have q := c_iushr p1 4 4 (by decide) (by decide)
  apply Int32.toInt_inj.mp
  rw [(by decide : (1 : Int32).toInt = 1)]
  omega
theorem own_n0 (nn : Int32) (h : 0 ≤ nn.toInt) : ¬ nn < 0 := by
  rw [Int32.lt_iff_toInt_lt, (by decide : (0 : Int32).toInt = 0)]; omega
theorem own_n1 (nn : Int32) (cap : Nat) (h : nn.toInt ≤ cap) : nn.toNatClampNeg ≤ cap := by
  show nn.toInt.toNat ≤ cap
  omega
theorem own_two (nn : Int32) (hn : 9 ≤ nn.toInt ∧ nn.toInt ≤ 16) : 16 ≤ (((2 : Int32) * nn) - (1 : Int32)).toInt ∧ (((2 : Int32) * nn) - (1 : Int32)).toInt < 32 := by
  have q := c_imul (2 : Int32) nn
  have r := c_isub ((2 : Int32) * nn) (1 : Int32)
  have s1 := rng32 ((2 : Int32) * nn)
  have s2 := rng32 (((2 : Int32) * nn) - (1 : Int32))
  rw [(by decide : (2 : Int32).toInt = 2)] at q
  rw [(by decide : (1 : Int32).toInt = 1)] at r
  omega
theorem own_8a (nn : Int32) (h : nn.toInt ≤ 8) : ¬ (8 : Int32) < nn := by
  rw [Int32.lt_iff_toInt_lt, (by decide : (8 : Int32).toInt = 8)]; omega
theorem own_8b (nn : Int32) (h : 9 ≤ nn.toInt) : (8 : Int32) < nn := by
  rw [Int32.lt_iff_toInt_lt, (by decide : (8 : Int32).toInt = 8)]; omega
theorem own_strict (nn k : Int32) (hN : k.toInt ≤ nn.toInt) (h : ¬ k = nn) : k < nn := by
  rw [Int32.lt_iff_toInt_lt]
  have h' : ¬ k.toInt = nn.toInt := fun z => h (Int32.toInt_inj.mp z)
  omega
theorem own_next (nn k k1 : Int32) (hk : k1.toInt = k.toInt + 1) (h : k < nn) : k1.toInt ≤ nn.toInt := by
  rw [Int32.lt_iff_toInt_lt] at h
  omega
theorem own_drop4 {Z : State} {h : Heap} {a : Addr} {k : ClassId} {z : Int32} {u0 u1 u2 : Value} (F : Arv Z h a k .int z [u0, u1, u2, (.int (0 : Int32))] (.int (0 : Int32))) : Arv Z h a k .int z [u0, u1, u2] (.int (0 : Int32)) :=
  F.pad (fun i => by
    match i with
    | 0 => rfl
    | 1 => rfl
    | 2 => rfl
    | 3 => rfl
    | (n + 4) => rfl)
theorem d11_0 : decode jdk_33_method_47_code 0 = .ok (.iload_n 0, 1) := by decide +kernel
theorem d11_1 : decode jdk_33_method_47_code 1 = .ok (.ifCond .gt 14, 3) := by decide +kernel
theorem d11_4 : decode jdk_33_method_47_code 4 = .ok (.iload_n 0, 1) := by decide +kernel
theorem d11_5 : decode jdk_33_method_47_code 5 = .ok (.ifCond .ne 8, 3) := by decide +kernel
theorem d11_8 : decode jdk_33_method_47_code 8 = .ok (.bipush 32, 2) := by decide +kernel
theorem d11_10 : decode jdk_33_method_47_code 10 = .ok (.goto 4, 3) := by decide +kernel
theorem d11_13 : decode jdk_33_method_47_code 13 = .ok (.iconst 0, 1) := by decide +kernel
theorem d11_14 : decode jdk_33_method_47_code 14 = .ok (.ireturn, 1) := by decide +kernel
theorem d11_15 : decode jdk_33_method_47_code 15 = .ok (.bipush 31, 2) := by decide +kernel
theorem d11_17 : decode jdk_33_method_47_code 17 = .ok (.istore_n 1, 1) := by decide +kernel
theorem d11_18 : decode jdk_33_method_47_code 18 = .ok (.iload_n 0, 1) := by decide +kernel
theorem d11_19 : decode jdk_33_method_47_code 19 = .ok (.ldc_w 264, 3) := by decide +kernel
theorem d11_22 : decode jdk_33_method_47_code 22 = .ok (.if_icmp .lt 11, 3) := by decide +kernel
theorem d11_25 : decode jdk_33_method_47_code 25 = .ok (.iinc 1 (-16), 3) := by decide +kernel
theorem d11_28 : decode jdk_33_method_47_code 28 = .ok (.iload_n 0, 1) := by decide +kernel
theorem d11_29 : decode jdk_33_method_47_code 29 = .ok (.bipush 16, 2) := by decide +kernel
theorem d11_31 : decode jdk_33_method_47_code 31 = .ok (.iushr, 1) := by decide +kernel
theorem d11_32 : decode jdk_33_method_47_code 32 = .ok (.istore_n 0, 1) := by decide +kernel
theorem d11_33 : decode jdk_33_method_47_code 33 = .ok (.iload_n 0, 1) := by decide +kernel
theorem d11_34 : decode jdk_33_method_47_code 34 = .ok (.sipush 256, 3) := by decide +kernel
theorem d11_37 : decode jdk_33_method_47_code 37 = .ok (.if_icmp .lt 11, 3) := by decide +kernel
theorem d11_40 : decode jdk_33_method_47_code 40 = .ok (.iinc 1 (-8), 3) := by decide +kernel
theorem d11_43 : decode jdk_33_method_47_code 43 = .ok (.iload_n 0, 1) := by decide +kernel
theorem d11_44 : decode jdk_33_method_47_code 44 = .ok (.bipush 8, 2) := by decide +kernel
theorem d11_46 : decode jdk_33_method_47_code 46 = .ok (.iushr, 1) := by decide +kernel
theorem d11_47 : decode jdk_33_method_47_code 47 = .ok (.istore_n 0, 1) := by decide +kernel
theorem d11_48 : decode jdk_33_method_47_code 48 = .ok (.iload_n 0, 1) := by decide +kernel
theorem d11_49 : decode jdk_33_method_47_code 49 = .ok (.bipush 16, 2) := by decide +kernel
theorem d11_51 : decode jdk_33_method_47_code 51 = .ok (.if_icmp .lt 10, 3) := by decide +kernel
theorem d11_54 : decode jdk_33_method_47_code 54 = .ok (.iinc 1 (-4), 3) := by decide +kernel
theorem d11_57 : decode jdk_33_method_47_code 57 = .ok (.iload_n 0, 1) := by decide +kernel
theorem d11_58 : decode jdk_33_method_47_code 58 = .ok (.iconst 4, 1) := by decide +kernel
theorem d11_59 : decode jdk_33_method_47_code 59 = .ok (.iushr, 1) := by decide +kernel
theorem d11_60 : decode jdk_33_method_47_code 60 = .ok (.istore_n 0, 1) := by decide +kernel
theorem d11_61 : decode jdk_33_method_47_code 61 = .ok (.iload_n 0, 1) := by decide +kernel
theorem d11_62 : decode jdk_33_method_47_code 62 = .ok (.iconst 4, 1) := by decide +kernel
theorem d11_63 : decode jdk_33_method_47_code 63 = .ok (.if_icmp .lt 10, 3) := by decide +kernel
theorem d11_66 : decode jdk_33_method_47_code 66 = .ok (.iinc 1 (-2), 3) := by decide +kernel
theorem d11_69 : decode jdk_33_method_47_code 69 = .ok (.iload_n 0, 1) := by decide +kernel
theorem d11_70 : decode jdk_33_method_47_code 70 = .ok (.iconst 2, 1) := by decide +kernel
theorem d11_71 : decode jdk_33_method_47_code 71 = .ok (.iushr, 1) := by decide +kernel
theorem d11_72 : decode jdk_33_method_47_code 72 = .ok (.istore_n 0, 1) := by decide +kernel
theorem d11_73 : decode jdk_33_method_47_code 73 = .ok (.iload_n 1, 1) := by decide +kernel
theorem d11_74 : decode jdk_33_method_47_code 74 = .ok (.iload_n 0, 1) := by decide +kernel
theorem d11_75 : decode jdk_33_method_47_code 75 = .ok (.iconst 1, 1) := by decide +kernel
theorem d11_76 : decode jdk_33_method_47_code 76 = .ok (.iushr, 1) := by decide +kernel
theorem d11_77 : decode jdk_33_method_47_code 77 = .ok (.isub, 1) := by decide +kernel
theorem d11_78 : decode jdk_33_method_47_code 78 = .ok (.ireturn, 1) := by decide +kernel
theorem pn_11 : plainFor (⟨"java/lang/Integer", "numberOfLeadingZeros", "(I)I"⟩ : MethodName) = true := plainFor_of_name (show plainName "java/lang/Integer" = true by first | (simp [plainName, overriddenIn]; done) | decide +kernel)
theorem ef_rmNl (m : MethodId) (x0 : Int32) : entryFrame m #[(.int x0)] 2 = mkF m 0 #[iv x0, .unset] [] := by first | (simp [entryFrame, mkF, argsToLocals, Value.category]; done) | rfl
set_option maxRecDepth 65536 in
set_option maxHeartbeats 40000000 in
theorem rmNl (l : Launch) (Z : State) (a0 : Array Value) (hw : ∀ d ∈ tables_1, d.before a0 Z = true) (ws : List Jvm.Cond) (p1 : Int32) (h0 : Heap) (n0 : Nat) (Z0 : n0 ≤ h0.size) (hm : 16 ≤ p1.toInt ∧ p1.toInt < 32) :
    MetFree l (⟨"java/lang/Integer", "numberOfLeadingZeros", "(I)I"⟩ : MethodName) (head1 (Jvm.Cond.code (⟨"java/lang/Integer", "numberOfLeadingZeros", "(I)I"⟩ : MethodName) jdk_33_method_47_code 2 (some .int) :: ws) ({ frames := 0, cells := 0, slots := 0, locals := 0 } : Room)) (fun a U => a = #[(.int p1)] ∧ Z.Warmed39 U.vm ∧ U.heap = h0) (fun _ _ _ _ _ => True) (fun _ U o U' => ∃ v L, o = .returned v ∧ QP (.int (27 : Int32)) h0 n0 v U'.heap L ∧ FrameEnd U o U' L ({ frames := 0, cells := 0, slots := 0, locals := 0 } : Room).cells ({ frames := 0, cells := 0, slots := 0, locals := 0 } : Room).slots) := by
  refine own_enter pn_11 ?_
  intro p e s m below meth c s₁ QQ hQQ hx hby hml hown hnm hret hlk hZ X0 e0
  have hown : s.vm.findClass "java/lang/Integer" = some m.cls := hown
  have hml : c.maxLocals = 2 := hml
  have hret : meth.sig.returnType = some .int := hret
  have N0 := Fr.nil n0
  have K0 := Keep.refl h0 []
  refine Goes.cast (ef_rmNl m p1) ?_
  show Goes p e below QQ (s₁.setTop (mkF m 0 #[iv p1, .unset] []))
  refine G1 (XS.iloadN X0.here hx rfl (hb hby d11_0) rfl) ?_
  show Gs p e below QQ s₁ m 1 #[iv p1, .unset] [(.int p1)]
  refine G1 (XS.ifYes X0.here hx rfl (pc0 := 1) (pc' := 15) rfl (hb hby d11_1) rfl ((if0 _ _).trans (tlt (own_nl0 p1 hm)).2.2.1) (by decide) (by decide)) ?_
  show Gs p e below QQ s₁ m 15 #[iv p1, .unset] []
  refine G1 (XS.bipush X0.here hx rfl (hb hby d11_15)) ?_
  refine G1 (XS.istoreN X0.here hx rfl (hb hby d11_17) rfl (l' := #[iv p1, iv 31]) rfl) ?_
  refine G1 (XS.iloadN X0.here hx rfl (hb hby d11_18) rfl) ?_
  show Goes p e below QQ (s₁.setTop (mkF m 19 #[iv p1, iv 31] [(.int p1)]))
  refine Goes.on (fun t k => X0.ldcwInt hx hown (mvT hZ (wI hw 59 rfl)) (g := (mkF m 19 #[iv p1, iv 31] [(.int p1)])) rfl (hb hby d11_19) t k) ?_
  show Goes p e below QQ (s₁.setTop (mkF m 22 #[iv p1, iv 31] [(.int 65536), (.int p1)]))
  refine G1 (XS.icmpYes X0.here hx rfl (pc0 := 22) (pc' := 33) rfl (hb hby d11_22) rfl (tlt (own_nl1 p1 hm)).1 (by decide) (by decide)) ?_
  show Gs p e below QQ s₁ m 33 #[iv p1, iv 31] []
  refine G1 (XS.iloadN X0.here hx rfl (hb hby d11_33) rfl) ?_
  refine G1 (XS.sipush X0.here hx rfl (hb hby d11_34)) ?_
  show Gs p e below QQ s₁ m 37 #[iv p1, iv 31] [(.int 256), (.int p1)]
  refine G1 (XS.icmpYes X0.here hx rfl (pc0 := 37) (pc' := 48) rfl (hb hby d11_37) rfl (tlt (own_nl2 p1 hm)).1 (by decide) (by decide)) ?_
  show Gs p e below QQ s₁ m 48 #[iv p1, iv 31] []
  refine G1 (XS.iloadN X0.here hx rfl (hb hby d11_48) rfl) ?_
  refine G1 (XS.bipush X0.here hx rfl (hb hby d11_49)) ?_
  show Gs p e below QQ s₁ m 51 #[iv p1, iv 31] [(.int 16), (.int p1)]
  refine G1 (XS.icmpNo X0.here hx rfl (hb hby d11_51) rfl (flt (own_nl3 p1 hm)).1) ?_
  show Gs p e below QQ s₁ m 54 #[iv p1, iv 31] []
  refine G1 (XS.iinc X0.here hx rfl (hb hby d11_54) rfl (l' := #[iv p1, iv ((31 : Int32) + (-4 : Int32))]) rfl) ?_
  show Goes p e below QQ (s₁.setTop (mkF m 57 #[iv p1, iv ((31 : Int32) + (-4 : Int32))] []))
  rw [(by decide : ((31 : Int32) + (-4 : Int32)) = (27 : Int32))]
  show Goes p e below QQ (s₁.setTop (mkF m 57 #[iv p1, iv 27] []))
  refine G1 (XS.iloadN X0.here hx rfl (hb hby d11_57) rfl) ?_
  refine G1 (XS.iconst X0.here hx rfl (hb hby d11_58)) ?_
  show Gs p e below QQ s₁ m 59 #[iv p1, iv 27] [(.int 4), (.int p1)]
  refine G1 (XS.iushr X0.here hx rfl (hb hby d11_59) rfl) ?_
  show Goes p e below QQ (s₁.setTop (mkF m 60 #[iv p1, iv 27] [(.int ((p1.toUInt32 >>> ((4 : Int32) &&& 31).toUInt32).toInt32))]))
  rw [own_nl4 p1 hm]
  show Goes p e below QQ (s₁.setTop (mkF m 60 #[iv p1, iv 27] [(.int 1)]))
  refine G1 (XS.istoreN X0.here hx rfl (hb hby d11_60) rfl (l' := #[iv 1, iv 27]) rfl) ?_
  refine G1 (XS.iloadN X0.here hx rfl (hb hby d11_61) rfl) ?_
  refine G1 (XS.iconst X0.here hx rfl (hb hby d11_62)) ?_
  show Gs p e below QQ s₁ m 63 #[iv 1, iv 27] [(.int 4), (.int 1)]
  refine G1 (XS.icmpYes X0.here hx rfl (pc0 := 63) (pc' := 73) rfl (hb hby d11_63) rfl (tlt (by decide)).1 (by decide) (by decide)) ?_
  show Gs p e below QQ s₁ m 73 #[iv 1, iv 27] []
  refine G1 (XS.iloadN X0.here hx rfl (hb hby d11_73) rfl) ?_
  refine G1 (XS.iloadN X0.here hx rfl (hb hby d11_74) rfl) ?_
  refine G1 (XS.iconst X0.here hx rfl (hb hby d11_75)) ?_
  show Gs p e below QQ s₁ m 76 #[iv 1, iv 27] [(.int 1), (.int 1), (.int 27)]
  refine G1 (XS.iushr X0.here hx rfl (hb hby d11_76) rfl) ?_
  show Goes p e below QQ (s₁.setTop (mkF m 77 #[iv 1, iv 27] [(.int (((1 : Int32).toUInt32 >>> ((1 : Int32) &&& 31).toUInt32).toInt32)), (.int 27)]))
  rw [(by decide : (((1 : Int32).toUInt32 >>> ((1 : Int32) &&& 31).toUInt32).toInt32) = (0 : Int32))]
  show Goes p e below QQ (s₁.setTop (mkF m 77 #[iv 1, iv 27] [(.int 0), (.int 27)]))
  refine G1 (XS.isub X0.here hx rfl (hb hby d11_77) rfl) ?_
  show Goes p e below QQ (s₁.setTop (mkF m 78 #[iv 1, iv 27] [(.int ((27 : Int32) - (0 : Int32)))]))
  rw [(by decide : ((27 : Int32) - (0 : Int32)) = (27 : Int32))]
  show Goes p e below QQ (s₁.setTop (mkF m 78 #[iv 1, iv 27] [(.int 27)]))
  exact Goes.rI X0 hx hret hlk (hb hby d11_78) hQQ ⟨rfl, N0, e0⟩ (by decide) (by decide)
theorem d10_0 : decode prog_150_method_11_code 0 = .ok (.bipush 32, 2) := by decide +kernel
theorem d10_2 : decode prog_150_method_11_code 2 = .ok (.iconst 2, 1) := by decide +kernel
theorem d10_3 : decode prog_150_method_11_code 3 = .ok (.iload_n 1, 1) := by decide +kernel
theorem d10_4 : decode prog_150_method_11_code 4 = .ok (.imul, 1) := by decide +kernel
theorem d10_5 : decode prog_150_method_11_code 5 = .ok (.iconst 1, 1) := by decide +kernel
theorem d10_6 : decode prog_150_method_11_code 6 = .ok (.isub, 1) := by decide +kernel
theorem d10_7 : decode prog_150_method_11_code 7 = .ok (.invokestatic 64, 3) := by decide +kernel
theorem d10_10 : decode prog_150_method_11_code 10 = .ok (.isub, 1) := by decide +kernel
theorem d10_11 : decode prog_150_method_11_code 11 = .ok (.istore_n 2, 1) := by decide +kernel
theorem d10_12 : decode prog_150_method_11_code 12 = .ok (.aload_n 0, 1) := by decide +kernel
theorem d10_13 : decode prog_150_method_11_code 13 = .ok (.iconst 1, 1) := by decide +kernel
theorem d10_14 : decode prog_150_method_11_code 14 = .ok (.iload_n 2, 1) := by decide +kernel
theorem d10_15 : decode prog_150_method_11_code 15 = .ok (.ishl, 1) := by decide +kernel
theorem d10_16 : decode prog_150_method_11_code 16 = .ok (.newarray .int, 2) := by decide +kernel
theorem d10_18 : decode prog_150_method_11_code 18 = .ok (.putfield 35, 3) := by decide +kernel
theorem d10_21 : decode prog_150_method_11_code 21 = .ok (.aload_n 0, 1) := by decide +kernel
theorem d10_22 : decode prog_150_method_11_code 22 = .ok (.bipush 32, 2) := by decide +kernel
theorem d10_24 : decode prog_150_method_11_code 24 = .ok (.iload_n 2, 1) := by decide +kernel
theorem d10_25 : decode prog_150_method_11_code 25 = .ok (.isub, 1) := by decide +kernel
theorem d10_26 : decode prog_150_method_11_code 26 = .ok (.putfield 39, 3) := by decide +kernel
theorem d10_29 : decode prog_150_method_11_code 29 = .ok (.iconst 0, 1) := by decide +kernel
theorem d10_30 : decode prog_150_method_11_code 30 = .ok (.istore_n 3, 1) := by decide +kernel
theorem d10_31 : decode prog_150_method_11_code 31 = .ok (.iload_n 3, 1) := by decide +kernel
theorem d10_32 : decode prog_150_method_11_code 32 = .ok (.aload_n 0, 1) := by decide +kernel
theorem d10_33 : decode prog_150_method_11_code 33 = .ok (.getfield 31, 3) := by decide +kernel
theorem d10_36 : decode prog_150_method_11_code 36 = .ok (.if_icmp .ge 14, 3) := by decide +kernel
theorem d10_39 : decode prog_150_method_11_code 39 = .ok (.aload_n 0, 1) := by decide +kernel
theorem d10_40 : decode prog_150_method_11_code 40 = .ok (.iload_n 3, 1) := by decide +kernel
theorem d10_41 : decode prog_150_method_11_code 41 = .ok (.invokevirtual 61, 3) := by decide +kernel
theorem d10_44 : decode prog_150_method_11_code 44 = .ok (.iinc 3 1, 3) := by decide +kernel
theorem d10_47 : decode prog_150_method_11_code 47 = .ok (.goto (-16), 3) := by decide +kernel
theorem d10_50 : decode prog_150_method_11_code 50 = .ok (.return_, 1) := by decide +kernel
theorem pn_10 : plainFor (⟨"com/example/bindery/bindery/PartIndex", "makeSlots", "(I)V"⟩ : MethodName) = true := plainFor_of_name (show plainName "com/example/bindery/bindery/PartIndex" = true by first | (simp [plainName, overriddenIn]; done) | decide +kernel)
theorem ef_rmMk (m : MethodId) (x0 : Addr) (x1 : Int32) : entryFrame m #[(.ref x0), (.int x1)] 4 = mkF m 0 #[rv x0, iv x1, .unset, .unset] [] := by first | (simp [entryFrame, mkF, argsToLocals, Value.category]; done) | rfl
theorem pd_1 : parseMethodDescriptor "(I)I" = some ⟨[.int], some .int⟩ := by decide +kernel
set_option maxRecDepth 65536 in
set_option maxHeartbeats 40000000 in
theorem rmMk (l : Launch) (Z : State) (a0 : Array Value) (hw : ∀ d ∈ tables_1, d.before a0 Z = true) (ws : List Jvm.Cond) (a1 b1 : Addr) (p1 : Int32) (h0 : Heap) (n0 : Nat) (Z0 : n0 ≤ h0.size) (E_a1 : Exa Z h0 a1 "com/example/bindery/bindery/PartIndex") (F_hashes_a1 : Fld Z h0 a1 "com/example/bindery/bindery/PartIndex" "hashes" "[I" (.ref b1)) (F_slots_a1 : Fld Z h0 a1 "com/example/bindery/bindery/PartIndex" "slots" "[I" .null) (F_shift_a1 : Fld Z h0 a1 "com/example/bindery/bindery/PartIndex" "shift" "I" (.int 0)) (F_size_a1 : Fld Z h0 a1 "com/example/bindery/bindery/PartIndex" "size" "I" (.int 0)) (g_a1 : n0 ≤ a1) (hm : 16 ≤ (((2 : Int32) * p1) - (1 : Int32)).toInt ∧ (((2 : Int32) * p1) - (1 : Int32)).toInt < 32) :
    MetFree l (⟨"com/example/bindery/bindery/PartIndex", "makeSlots", "(I)V"⟩ : MethodName) (head1 (Jvm.Cond.code (⟨"com/example/bindery/bindery/PartIndex", "makeSlots", "(I)V"⟩ : MethodName) prog_150_method_11_code 4 none :: ws) ({ frames := 1, cells := 1, slots := 32, locals := 14 } : Room)) (fun a U => a = #[(.ref a1), (.int p1)] ∧ Z.Warmed39 U.vm ∧ U.heap = h0) (fun _ _ _ _ _ => True) (fun _ U o U' => ∃ v L, o = .returned v ∧ QMk Z a1 b1 h0 n0 v U'.heap L ∧ FrameEnd U o U' L ({ frames := 1, cells := 1, slots := 32, locals := 14 } : Room).cells ({ frames := 1, cells := 1, slots := 32, locals := 14 } : Room).slots) := by
  refine own_enter pn_10 ?_
  intro p e s m below meth c s₁ QQ hQQ hx hby hml hown hnm hret hlk hZ X0 e0
  have hown : s.vm.findClass "com/example/bindery/bindery/PartIndex" = some m.cls := hown
  have hml : c.maxLocals = 4 := hml
  have hret : meth.sig.returnType = none := hret
  have N0 := Fr.nil n0
  have K0 := Keep.refl h0 [a1]
  refine Goes.cast (ef_rmMk m a1 p1) ?_
  show Goes p e below QQ (s₁.setTop (mkF m 0 #[rv a1, iv p1, .unset, .unset] []))
  refine G1 (XS.bipush X0.here hx rfl (hb hby d10_0)) ?_
  refine G1 (XS.iconst X0.here hx rfl (hb hby d10_2)) ?_
  refine G1 (XS.iloadN X0.here hx rfl (hb hby d10_3) rfl) ?_
  show Gs p e below QQ s₁ m 4 #[rv a1, iv p1, .unset, .unset] [(.int p1), (.int 2), (.int 32)]
  refine G1 (XS.imul X0.here hx rfl (hb hby d10_4) rfl) ?_
  show Gs p e below QQ s₁ m 5 #[rv a1, iv p1, .unset, .unset] [(.int ((2 : Int32) * p1)), (.int 32)]
  refine G1 (XS.iconst X0.here hx rfl (hb hby d10_5)) ?_
  show Gs p e below QQ s₁ m 6 #[rv a1, iv p1, .unset, .unset] [(.int 1), (.int ((2 : Int32) * p1)), (.int 32)]
  refine G1 (XS.isub X0.here hx rfl (hb hby d10_6) rfl) ?_
  show Goes p e below QQ (s₁.setTop (mkF m 7 #[rv a1, iv p1, .unset, .unset] [(.int (((2 : Int32) * p1) - (1 : Int32))), (.int 32)]))
  obtain ⟨_, _, ⟨T1, L1, k1, n1⟩, -, X1, ⟨Lc1, hQ1, l1, y1, z1⟩, st1⟩ := Jvm.LawKit.callS X0 hx (y := (⟨"java/lang/Integer", "numberOfLeadingZeros", "(I)I"⟩ : MethodName)) hown (mvT hZ (wI hw 55 rfl)) (mvT hZ (wI hw 56 rfl)) (mvT hZ (wI hw 57 rfl)) (mvT hZ (wI hw 58 rfl)) (by decide) (backOf (W := 1) (rmNl l Z a0 hw [] (((2 : Int32) * p1) - (1 : Int32)) h0 n0 (Nat.le_trans Z0 K0.1) hm) hZ (wI hw 58 rfl) (wI hw 57 rfl) (by decide) (by decide)) (g := (mkF m 7 #[rv a1, iv p1, .unset, .unset] [(.int (((2 : Int32) * p1) - (1 : Int32))), (.int 32)])) rfl (by rw [hml]; rfl) (argsL := [(.int (((2 : Int32) * p1) - (1 : Int32)))]) (rest := [(.int 32)]) (lenOf pd_1 rfl) rfl (by show 2 * 0 + _ ≤ _; exact Nat.le_of_eq rfl) (hb hby d10_7) (fun _ _ => ⟨rfl, e0, (by decide : 0 + 0 ≤ _), (by decide : 0 + 0 ≤ _)⟩)
  dsimp only [Pt.U, Pt.locs, Pt.cells, Pt.slots] at X1 l1 y1 z1 st1 hQ1
  have l1 := l1.symm; have y1 := y1.symm; have z1 := z1.symm; subst l1 y1 z1
  have X1 : Stand p l e ({ frames := 1, cells := 1, slots := 32, locals := 14 } : Room) s m #[(.ref a1), (.int p1)] below meth c T1 _ 0 0 := X1
  obtain ⟨rfl, M1, e1⟩ := hQ1
  have N1 := Fr.app N0 M1
  refine Goes.on (fun t k => st1 _ k) ?_
  show Goes p e below QQ (T1.setTop (mkF m 10 #[rv a1, iv p1, .unset, .unset] [(.int 27), (.int 32)]))
  refine G1 (XS.isub X1.here hx rfl (hb hby d10_10) rfl) ?_
  show Goes p e below QQ (T1.setTop (mkF m 11 #[rv a1, iv p1, .unset, .unset] [(.int ((32 : Int32) - (27 : Int32)))]))
  rw [(by decide : ((32 : Int32) - (27 : Int32)) = (5 : Int32))]
  show Goes p e below QQ (T1.setTop (mkF m 11 #[rv a1, iv p1, .unset, .unset] [(.int 5)]))
  refine G1 (XS.istoreN X1.here hx rfl (hb hby d10_11) rfl (l' := #[rv a1, iv p1, iv 5, .unset]) rfl) ?_
  refine G1 (XS.aloadN X1.here hx rfl (hb hby d10_12) rfl rfl) ?_
  refine G1 (XS.iconst X1.here hx rfl (hb hby d10_13)) ?_
  show Gs p e below QQ T1 m 14 #[rv a1, iv p1, iv 5, .unset] [(.int 1), (.ref a1)]
  refine G1 (XS.iloadN X1.here hx rfl (hb hby d10_14) rfl) ?_
  show Gs p e below QQ T1 m 15 #[rv a1, iv p1, iv 5, .unset] [(.int 5), (.int 1), (.ref a1)]
  refine G1 (XS.ishl X1.here hx rfl (hb hby d10_15) rfl) ?_
  show Goes p e below QQ (T1.setTop (mkF m 16 #[rv a1, iv p1, iv 5, .unset] [(.int ((1 : Int32) <<< ((5 : Int32) &&& 31))), (.ref a1)]))
  rw [(by decide : ((1 : Int32) <<< ((5 : Int32) &&& 31)) = (32 : Int32))]
  show Goes p e below QQ (T1.setTop (mkF m 16 #[rv a1, iv p1, iv 5, .unset] [(.int 32), (.ref a1)]))
  obtain ⟨T2, h2, k2, X2, e2, E2, A2, st2⟩ := newP X1 hx hZ (wI hw 20 rfl) e1 (g := (mkF m 16 #[rv a1, iv p1, iv 5, .unset] [(.int 32), (.ref a1)])) rfl (hb hby d10_16) rfl (by decide) (cap := 32) (by decide) (by decide) (by decide) (by decide)
  obtain ⟨b2, g2⟩ : ∃ z, z = h0.size := ⟨_, rfl⟩
  rw [← g2] at A2 st2
  have sz_b2 : h0.size ≤ b2 := Nat.le_trans K0.1 (Nat.le_of_eq g2.symm)
  have g_b2 : n0 ≤ b2 := Nat.le_trans Z0 sz_b2
  have ne_a1_b2 : a1 ≠ b2 := Nat.ne_of_lt (Nat.lt_of_lt_of_le E_a1.lt (Nat.le_of_eq g2.symm))
  have E_3 := E_a1.ext E2
  have F_4 := F_hashes_a1.ext E2
  have F_5 := F_slots_a1.ext E2
  have F_6 := F_shift_a1.ext E2
  have F_7 := F_size_a1.ext E2
  have K2 := K0.ext E2
  have X2 : Stand p l e ({ frames := 1, cells := 1, slots := 32, locals := 14 } : Room) s m #[(.ref a1), (.int p1)] below meth c T2 _ 1 32 := X2
  have V_8 : Arv Z h2 b2 k2 .int (32 : Int32) (List.replicate 32 (.int 0)) (.int 0) := (Arv.new A2 (by decide)).pad (pad_rep [] (.int 0) 32)
  refine Goes.on (fun t k => st2 t k) ?_
  show Goes p e below QQ (T2.setTop (mkF m 18 #[rv a1, iv p1, iv 5, .unset] [(.ref b2), (.ref a1)]))
  obtain ⟨T9, h9, X9, e9, W9, st9⟩ := putF X2 hx hZ hown (host := "") (Or.inl (wI hw 29 rfl)) Via.refl e2 F_5 E_3 (Or.inl (wI hw 30 rfl)) (wI hw 1 rfl) (ty := (.array .int)) (by decide) rfl rfl (g := (mkF m 18 #[rv a1, iv p1, iv 5, .unset] [(.ref b2), (.ref a1)])) rfl rfl (hb hby d10_18)
  have E_10 := E_3.wr W9
  have F_11 := F_4.other W9 (Or.inr (slot_ne (Or.inl (wI hw 22 rfl)) (Or.inl (wI hw 30 rfl)) (by decide) (t := (.array .int)) (t' := (.array .int)) (by decide) (by decide)))
  have F_12 := F_6.other W9 (Or.inr (slot_ne (Or.inl (wI hw 61 rfl)) (Or.inl (wI hw 30 rfl)) (by decide) (t := .int) (t' := (.array .int)) (by decide) (by decide)))
  have F_13 := F_7.other W9 (Or.inr (slot_ne (Or.inl (wI hw 32 rfl)) (Or.inl (wI hw 30 rfl)) (by decide) (t := .int) (t' := (.array .int)) (by decide) (by decide)))
  have V_14 := V_8.other W9 (Ne.symm ne_a1_b2)
  have K9 := K2.wr W9 (Or.inl (List.mem_of_getElem? (i := 0) rfl))
  have N9 := Fr.snoc X9 N1 g_a1
  have F_15 : Fld Z h9 a1 "com/example/bindery/bindery/PartIndex" "slots" "[I" (.ref b2) := F_5.same W9
  refine Goes.on (fun t k => st9 t k) ?_
  show Goes p e below QQ (T9.setTop (mkF m 21 #[rv a1, iv p1, iv 5, .unset] []))
  refine G1 (XS.aloadN X9.here hx rfl (hb hby d10_21) rfl rfl) ?_
  refine G1 (XS.bipush X9.here hx rfl (hb hby d10_22)) ?_
  refine G1 (XS.iloadN X9.here hx rfl (hb hby d10_24) rfl) ?_
  show Gs p e below QQ T9 m 25 #[rv a1, iv p1, iv 5, .unset] [(.int 5), (.int 32), (.ref a1)]
  refine G1 (XS.isub X9.here hx rfl (hb hby d10_25) rfl) ?_
  show Goes p e below QQ (T9.setTop (mkF m 26 #[rv a1, iv p1, iv 5, .unset] [(.int ((32 : Int32) - (5 : Int32))), (.ref a1)]))
  rw [(by decide : ((32 : Int32) - (5 : Int32)) = (27 : Int32))]
  show Goes p e below QQ (T9.setTop (mkF m 26 #[rv a1, iv p1, iv 5, .unset] [(.int 27), (.ref a1)]))
  obtain ⟨T16, h16, X16, e16, W16, st16⟩ := putF X9 hx hZ hown (host := "") (Or.inl (wI hw 60 rfl)) Via.refl e9 F_12 E_10 (Or.inl (wI hw 61 rfl)) (wI hw 1 rfl) (ty := .int) (by decide) rfl rfl (g := (mkF m 26 #[rv a1, iv p1, iv 5, .unset] [(.int 27), (.ref a1)])) rfl rfl (hb hby d10_26)
  have E_17 := E_10.wr W16
  have F_18 := F_11.other W16 (Or.inr (slot_ne (Or.inl (wI hw 22 rfl)) (Or.inl (wI hw 61 rfl)) (by decide) (t := (.array .int)) (t' := .int) (by decide) (by decide)))
  have F_19 := F_15.other W16 (Or.inr (slot_ne (Or.inl (wI hw 30 rfl)) (Or.inl (wI hw 61 rfl)) (by decide) (t := (.array .int)) (t' := .int) (by decide) (by decide)))
  have F_20 := F_13.other W16 (Or.inr (slot_ne (Or.inl (wI hw 32 rfl)) (Or.inl (wI hw 61 rfl)) (by decide) (t := .int) (t' := .int) (by decide) (by decide)))
  have V_21 := V_14.other W16 (Ne.symm ne_a1_b2)
  have K16 := K9.wr W16 (Or.inl (List.mem_of_getElem? (i := 0) rfl))
  have N16 := Fr.snoc X16 N9 g_a1
  have F_22 : Fld Z h16 a1 "com/example/bindery/bindery/PartIndex" "shift" "I" (.int 27) := F_12.same W16
  refine Goes.on (fun t k => st16 t k) ?_
  show Goes p e below QQ (T16.setTop (mkF m 29 #[rv a1, iv p1, iv 5, .unset] []))
  refine G1 (XS.iconst X16.here hx rfl (hb hby d10_29)) ?_
  refine G1 (XS.istoreN X16.here hx rfl (hb hby d10_30) rfl (l' := #[rv a1, iv p1, iv 5, iv 0]) rfl) ?_
  refine G1 (XS.iloadN X16.here hx rfl (hb hby d10_31) rfl) ?_
  show Gs p e below QQ T16 m 32 #[rv a1, iv p1, iv 5, iv 0] [(.int 0)]
  refine G1 (XS.aloadN X16.here hx rfl (hb hby d10_32) rfl rfl) ?_
  show Goes p e below QQ (T16.setTop (mkF m 33 #[rv a1, iv p1, iv 5, iv 0] [(.ref a1), (.int 0)]))
  obtain ⟨T23, X23, e23, st23⟩ := getF X16 hx hZ hown (host := "") (Or.inl (wI hw 31 rfl)) Via.refl e16 F_20 (g := (mkF m 33 #[rv a1, iv p1, iv 5, iv 0] [(.ref a1), (.int 0)])) rfl rfl (hb hby d10_33)
  refine Goes.on (fun t k => st23 t k) ?_
  show Goes p e below QQ (T23.setTop (mkF m 36 #[rv a1, iv p1, iv 5, iv 0] [(.int 0), (.int 0)]))
  refine G1 (XS.icmpYes X23.here hx rfl (pc0 := 36) (pc' := 50) rfl (hb hby d10_36) rfl (flt (by decide)).2.1 (by decide) (by decide)) ?_
  show Goes p e below QQ (T23.setTop (mkF m 50 #[rv a1, iv p1, iv 5, iv 0] []))
  exact Goes.rV X23 hx hret hlk (hb hby d10_50) hQQ (by rw [e23]; exact ⟨b2, k2, rfl, N16, K16, sz_b2, ⟨F_18, F_19, F_22, F_20⟩, V_21⟩) (by decide) (by decide)
theorem d1_0 : decode prog_150_method_1_code 0 = .ok (.aload_n 0, 1) := by decide +kernel
theorem d1_1 : decode prog_150_method_1_code 1 = .ok (.invokespecial 1, 3) := by decide +kernel
theorem d1_4 : decode prog_150_method_1_code 4 = .ok (.aload_n 0, 1) := by decide +kernel
theorem d1_5 : decode prog_150_method_1_code 5 = .ok (.iload_n 1, 1) := by decide +kernel
theorem d1_6 : decode prog_150_method_1_code 6 = .ok (.invokestatic 7, 3) := by decide +kernel
theorem d1_9 : decode prog_150_method_1_code 9 = .ok (.newarray .int, 2) := by decide +kernel
theorem d1_11 : decode prog_150_method_1_code 11 = .ok (.putfield 13, 3) := by decide +kernel
theorem d1_14 : decode prog_150_method_1_code 14 = .ok (.aload_n 0, 1) := by decide +kernel
theorem d1_15 : decode prog_150_method_1_code 15 = .ok (.getfield 13, 3) := by decide +kernel
theorem d1_18 : decode prog_150_method_1_code 18 = .ok (.arraylength, 1) := by decide +kernel
theorem d1_19 : decode prog_150_method_1_code 19 = .ok (.bipush 8, 2) := by decide +kernel
theorem d1_21 : decode prog_150_method_1_code 21 = .ok (.if_icmp .le 12, 3) := by decide +kernel
theorem d1_24 : decode prog_150_method_1_code 24 = .ok (.aload_n 0, 1) := by decide +kernel
theorem d1_25 : decode prog_150_method_1_code 25 = .ok (.aload_n 0, 1) := by decide +kernel
theorem d1_26 : decode prog_150_method_1_code 26 = .ok (.getfield 13, 3) := by decide +kernel
theorem d1_29 : decode prog_150_method_1_code 29 = .ok (.arraylength, 1) := by decide +kernel
theorem d1_30 : decode prog_150_method_1_code 30 = .ok (.invokevirtual 17, 3) := by decide +kernel
theorem d1_33 : decode prog_150_method_1_code 33 = .ok (.return_, 1) := by decide +kernel
theorem pn_1 : plainFor (⟨"com/example/bindery/bindery/PartIndex", "<init>", "(I)V"⟩ : MethodName) = true := plainFor_of_name (show plainName "com/example/bindery/bindery/PartIndex" = true by first | (simp [plainName, overriddenIn]; done) | decide +kernel)
theorem ef_rmIn0 (m : MethodId) (x0 : Addr) (x1 : Int32) : entryFrame m #[(.ref x0), (.int x1)] 2 = mkF m 0 #[rv x0, iv x1] [] := by first | (simp [entryFrame, mkF, argsToLocals, Value.category]; done) | rfl
set_option maxRecDepth 65536 in
set_option maxHeartbeats 40000000 in
theorem rmIn0 (l : Launch) (Z : State) (a0 : Array Value) (hw : ∀ d ∈ tables_1, d.before a0 Z = true) (ws : List Jvm.Cond) (a1 : Addr) (p1 nn : Int32) (h0 : Heap) (n0 : Nat) (Z0 : n0 ≤ h0.size) (E_a1 : Exa Z h0 a1 "com/example/bindery/bindery/PartIndex") (F_hashes_a1 : Fld Z h0 a1 "com/example/bindery/bindery/PartIndex" "hashes" "[I" .null) (F_slots_a1 : Fld Z h0 a1 "com/example/bindery/bindery/PartIndex" "slots" "[I" .null) (F_shift_a1 : Fld Z h0 a1 "com/example/bindery/bindery/PartIndex" "shift" "I" (.int 0)) (F_size_a1 : Fld Z h0 a1 "com/example/bindery/bindery/PartIndex" "size" "I" (.int 0)) (g_a1 : n0 ≤ a1) (hr : roomF p1 = nn) (hn : 0 ≤ nn.toInt ∧ nn.toInt ≤ 8) :
    MetFree l (⟨"com/example/bindery/bindery/PartIndex", "<init>", "(I)V"⟩ : MethodName) (head1 (Jvm.Cond.code (⟨"com/example/bindery/bindery/PartIndex", "<init>", "(I)V"⟩ : MethodName) prog_150_method_1_code 2 none :: ws) ({ frames := 2, cells := 1, slots := 16, locals := 27 } : Room)) (fun a U => a = #[(.ref a1), (.int p1)] ∧ Z.Warmed39 U.vm ∧ U.heap = h0) (fun _ _ _ _ _ => True) (fun _ U o U' => ∃ v L, o = .returned v ∧ QI0 Z a1 nn h0 n0 v U'.heap L ∧ FrameEnd U o U' L ({ frames := 2, cells := 1, slots := 16, locals := 27 } : Room).cells ({ frames := 2, cells := 1, slots := 16, locals := 27 } : Room).slots) := by
  refine own_enter pn_1 ?_
  intro p e s m below meth c s₁ QQ hQQ hx hby hml hown hnm hret hlk hZ X0 e0
  have hown : s.vm.findClass "com/example/bindery/bindery/PartIndex" = some m.cls := hown
  have hml : c.maxLocals = 2 := hml
  have hret : meth.sig.returnType = none := hret
  have N0 := Fr.nil n0
  have K0 := Keep.refl h0 [a1]
  refine Goes.cast (ef_rmIn0 m a1 p1) ?_
  show Goes p e below QQ (s₁.setTop (mkF m 0 #[rv a1, iv p1] []))
  refine G1 (XS.aloadN X0.here hx rfl (hb hby d1_0) rfl rfl) ?_
  show Goes p e below QQ (s₁.setTop (mkF m 1 #[rv a1, iv p1] [(.ref a1)]))
  obtain ⟨T1, X1, e1, st1⟩ := initO X0 hx hZ hown (wI hw 6 rfl) (wI hw 7 rfl) (wI hw 8 rfl) e0 (g := (mkF m 1 #[rv a1, iv p1] [(.ref a1)])) rfl (by rw [hml]; rfl) rfl (hb hby d1_1) (by decide) (W := 0) (by show 2 * 0 + _ ≤ _; exact Nat.le_of_eq rfl) (by decide)
  refine Goes.on (fun t k => st1 t k) ?_
  show Goes p e below QQ (T1.setTop (mkF m 4 #[rv a1, iv p1] []))
  refine G1 (XS.aloadN X1.here hx rfl (hb hby d1_4) rfl rfl) ?_
  refine G1 (XS.iloadN X1.here hx rfl (hb hby d1_5) rfl) ?_
  show Goes p e below QQ (T1.setTop (mkF m 6 #[rv a1, iv p1] [(.int p1), (.ref a1)]))
  obtain ⟨_, _, ⟨T2, L2, k2, n2⟩, -, X2, ⟨Lc2, hQ2, l2, y2, z2⟩, st2⟩ := Jvm.LawKit.callS X1 hx (y := (⟨"com/example/bindery/bindery/PartIndex", "room", "(I)I"⟩ : MethodName)) hown (mvT hZ (wI hw 9 rfl)) (mvT hZ (wI hw 10 rfl)) (mvT hZ (wI hw 2 rfl)) (mvT hZ (wI hw 11 rfl)) (by decide) (backOf (W := 1) (rmRo l Z a0 hw [] p1 h0 n0 (Nat.le_trans Z0 K0.1) ) hZ (wI hw 11 rfl) (wI hw 2 rfl) (by decide) (by decide)) (g := (mkF m 6 #[rv a1, iv p1] [(.int p1), (.ref a1)])) rfl (by rw [hml]; rfl) (argsL := [(.int p1)]) (rest := [(.ref a1)]) (lenOf pd_1 rfl) rfl (by show 2 * 0 + _ ≤ _; exact Nat.le_of_eq rfl) (hb hby d1_6) (fun _ _ => ⟨rfl, e1, (by decide : 0 + 0 ≤ _), (by decide : 0 + 0 ≤ _)⟩)
  dsimp only [Pt.U, Pt.locs, Pt.cells, Pt.slots] at X2 l2 y2 z2 st2 hQ2
  have l2 := l2.symm; have y2 := y2.symm; have z2 := z2.symm; subst l2 y2 z2
  have X2 : Stand p l e ({ frames := 2, cells := 1, slots := 16, locals := 27 } : Room) s m #[(.ref a1), (.int p1)] below meth c T2 _ 0 0 := X2
  obtain ⟨rfl, M2, e2⟩ := hQ2
  have N2 := Fr.app N0 M2
  refine Goes.on (fun t k => st2 _ k) ?_
  show Goes p e below QQ (T2.setTop (mkF m 9 #[rv a1, iv p1] [(.int (roomF p1)), (.ref a1)]))
  rw [hr]
  show Goes p e below QQ (T2.setTop (mkF m 9 #[rv a1, iv p1] [(.int nn), (.ref a1)]))
  obtain ⟨T3, h3, k3, X3, e3, E3, A3, st3⟩ := newP X2 hx hZ (wI hw 20 rfl) e2 (g := (mkF m 9 #[rv a1, iv p1] [(.int nn), (.ref a1)])) rfl (hb hby d1_9) rfl (own_n0 nn (by omega)) (cap := 16) (own_n1 nn 16 (by omega)) (by decide) (by decide) (by decide)
  obtain ⟨b3, g3⟩ : ∃ z, z = h0.size := ⟨_, rfl⟩
  rw [← g3] at A3 st3
  have sz_b3 : h0.size ≤ b3 := Nat.le_trans K0.1 (Nat.le_of_eq g3.symm)
  have g_b3 : n0 ≤ b3 := Nat.le_trans Z0 sz_b3
  have ne_a1_b3 : a1 ≠ b3 := Nat.ne_of_lt (Nat.lt_of_lt_of_le E_a1.lt (Nat.le_of_eq g3.symm))
  have E_4 := E_a1.ext E3
  have F_5 := F_hashes_a1.ext E3
  have F_6 := F_slots_a1.ext E3
  have F_7 := F_shift_a1.ext E3
  have F_8 := F_size_a1.ext E3
  have K3 := K0.ext E3
  have X3 : Stand p l e ({ frames := 2, cells := 1, slots := 16, locals := 27 } : Room) s m #[(.ref a1), (.int p1)] below meth c T3 _ 1 16 := X3
  have V_9 : Arv Z h3 b3 k3 .int nn [(.int 0), (.int 0), (.int 0)] (.int 0) := (Arv.new A3 (own_n0 nn (by omega))).pad (pad_rep [] (.int 0) 3)
  refine Goes.on (fun t k => st3 t k) ?_
  show Goes p e below QQ (T3.setTop (mkF m 11 #[rv a1, iv p1] [(.ref b3), (.ref a1)]))
  obtain ⟨T10, h10, X10, e10, W10, st10⟩ := putF X3 hx hZ hown (host := "") (Or.inl (wI hw 21 rfl)) Via.refl e3 F_5 E_4 (Or.inl (wI hw 22 rfl)) (wI hw 1 rfl) (ty := (.array .int)) (by decide) rfl rfl (g := (mkF m 11 #[rv a1, iv p1] [(.ref b3), (.ref a1)])) rfl rfl (hb hby d1_11)
  have E_11 := E_4.wr W10
  have F_12 := F_6.other W10 (Or.inr (slot_ne (Or.inl (wI hw 30 rfl)) (Or.inl (wI hw 22 rfl)) (by decide) (t := (.array .int)) (t' := (.array .int)) (by decide) (by decide)))
  have F_13 := F_7.other W10 (Or.inr (slot_ne (Or.inl (wI hw 61 rfl)) (Or.inl (wI hw 22 rfl)) (by decide) (t := .int) (t' := (.array .int)) (by decide) (by decide)))
  have F_14 := F_8.other W10 (Or.inr (slot_ne (Or.inl (wI hw 32 rfl)) (Or.inl (wI hw 22 rfl)) (by decide) (t := .int) (t' := (.array .int)) (by decide) (by decide)))
  have V_15 := V_9.other W10 (Ne.symm ne_a1_b3)
  have K10 := K3.wr W10 (Or.inl (List.mem_of_getElem? (i := 0) rfl))
  have N10 := Fr.snoc X10 N2 g_a1
  have F_16 : Fld Z h10 a1 "com/example/bindery/bindery/PartIndex" "hashes" "[I" (.ref b3) := F_5.same W10
  refine Goes.on (fun t k => st10 t k) ?_
  show Goes p e below QQ (T10.setTop (mkF m 14 #[rv a1, iv p1] []))
  refine G1 (XS.aloadN X10.here hx rfl (hb hby d1_14) rfl rfl) ?_
  show Goes p e below QQ (T10.setTop (mkF m 15 #[rv a1, iv p1] [(.ref a1)]))
  obtain ⟨T17, X17, e17, st17⟩ := getF X10 hx hZ hown (host := "") (Or.inl (wI hw 21 rfl)) Via.refl e10 F_16 (g := (mkF m 15 #[rv a1, iv p1] [(.ref a1)])) rfl rfl (hb hby d1_15)
  refine Goes.on (fun t k => st17 t k) ?_
  show Goes p e below QQ (T17.setTop (mkF m 18 #[rv a1, iv p1] [(.ref b3)]))
  obtain ⟨cl18, Ar18, aq18, aS18, aN18, aH18, aG18⟩ := id V_15
  refine Goes.on (fun t k => X17.arraylength hx (by rw [e17]; exact Ar18.1) (State.isArrayOf_alike hZ.alike Ar18.2.1) (g := (mkF m 18 #[rv a1, iv p1] [(.ref b3)])) rfl rfl (hb hby d1_18) t k) ?_
  rw [len_of aS18 aN18]
  show Goes p e below QQ (T17.setTop (mkF m 19 #[rv a1, iv p1] [(.int nn)]))
  refine G1 (XS.bipush X17.here hx rfl (hb hby d1_19)) ?_
  show Gs p e below QQ T17 m 21 #[rv a1, iv p1] [(.int 8), (.int nn)]
  refine G1 (XS.icmpYes X17.here hx rfl (pc0 := 21) (pc' := 33) rfl (hb hby d1_21) rfl (flt (own_8a nn (by omega))).2.2.2 (by decide) (by decide)) ?_
  show Goes p e below QQ (T17.setTop (mkF m 33 #[rv a1, iv p1] []))
  exact Goes.rV X17 hx hret hlk (hb hby d1_33) hQQ (by rw [e17]; exact ⟨b3, k3, rfl, N10, K10, sz_b3, ⟨F_16, F_12, F_13, F_14⟩, V_15⟩) (by decide) (by decide)
theorem ef_rmIn1 (m : MethodId) (x0 : Addr) (x1 : Int32) : entryFrame m #[(.ref x0), (.int x1)] 2 = mkF m 0 #[rv x0, iv x1] [] := by first | (simp [entryFrame, mkF, argsToLocals, Value.category]; done) | rfl
theorem pd_2 : parseMethodDescriptor "(I)V" = some ⟨[.int], none⟩ := by decide +kernel
set_option maxRecDepth 65536 in
set_option maxHeartbeats 40000000 in
theorem rmIn1 (l : Launch) (Z : State) (a0 : Array Value) (hw : ∀ d ∈ tables_1, d.before a0 Z = true) (ws : List Jvm.Cond) (a1 : Addr) (p1 nn : Int32) (h0 : Heap) (n0 : Nat) (Z0 : n0 ≤ h0.size) (E_a1 : Exa Z h0 a1 "com/example/bindery/bindery/PartIndex") (F_hashes_a1 : Fld Z h0 a1 "com/example/bindery/bindery/PartIndex" "hashes" "[I" .null) (F_slots_a1 : Fld Z h0 a1 "com/example/bindery/bindery/PartIndex" "slots" "[I" .null) (F_shift_a1 : Fld Z h0 a1 "com/example/bindery/bindery/PartIndex" "shift" "I" (.int 0)) (F_size_a1 : Fld Z h0 a1 "com/example/bindery/bindery/PartIndex" "size" "I" (.int 0)) (g_a1 : n0 ≤ a1) (hr : roomF p1 = nn) (hn : 9 ≤ nn.toInt ∧ nn.toInt ≤ 16) :
    MetFree l (⟨"com/example/bindery/bindery/PartIndex", "<init>", "(I)V"⟩ : MethodName) (head1 (Jvm.Cond.code (⟨"com/example/bindery/bindery/PartIndex", "<init>", "(I)V"⟩ : MethodName) prog_150_method_1_code 2 none :: ws) ({ frames := 2, cells := 2, slots := 48, locals := 29 } : Room)) (fun a U => a = #[(.ref a1), (.int p1)] ∧ Z.Warmed39 U.vm ∧ U.heap = h0) (fun _ _ _ _ _ => True) (fun _ U o U' => ∃ v L, o = .returned v ∧ QI1 Z a1 nn h0 n0 v U'.heap L ∧ FrameEnd U o U' L ({ frames := 2, cells := 2, slots := 48, locals := 29 } : Room).cells ({ frames := 2, cells := 2, slots := 48, locals := 29 } : Room).slots) := by
  refine own_enter pn_1 ?_
  intro p e s m below meth c s₁ QQ hQQ hx hby hml hown hnm hret hlk hZ X0 e0
  have hown : s.vm.findClass "com/example/bindery/bindery/PartIndex" = some m.cls := hown
  have hml : c.maxLocals = 2 := hml
  have hret : meth.sig.returnType = none := hret
  have N0 := Fr.nil n0
  have K0 := Keep.refl h0 [a1]
  refine Goes.cast (ef_rmIn1 m a1 p1) ?_
  show Goes p e below QQ (s₁.setTop (mkF m 0 #[rv a1, iv p1] []))
  refine G1 (XS.aloadN X0.here hx rfl (hb hby d1_0) rfl rfl) ?_
  show Goes p e below QQ (s₁.setTop (mkF m 1 #[rv a1, iv p1] [(.ref a1)]))
  obtain ⟨T1, X1, e1, st1⟩ := initO X0 hx hZ hown (wI hw 6 rfl) (wI hw 7 rfl) (wI hw 8 rfl) e0 (g := (mkF m 1 #[rv a1, iv p1] [(.ref a1)])) rfl (by rw [hml]; rfl) rfl (hb hby d1_1) (by decide) (W := 0) (by show 2 * 0 + _ ≤ _; exact Nat.le_of_eq rfl) (by decide)
  refine Goes.on (fun t k => st1 t k) ?_
  show Goes p e below QQ (T1.setTop (mkF m 4 #[rv a1, iv p1] []))
  refine G1 (XS.aloadN X1.here hx rfl (hb hby d1_4) rfl rfl) ?_
  refine G1 (XS.iloadN X1.here hx rfl (hb hby d1_5) rfl) ?_
  show Goes p e below QQ (T1.setTop (mkF m 6 #[rv a1, iv p1] [(.int p1), (.ref a1)]))
  obtain ⟨_, _, ⟨T2, L2, k2, n2⟩, -, X2, ⟨Lc2, hQ2, l2, y2, z2⟩, st2⟩ := Jvm.LawKit.callS X1 hx (y := (⟨"com/example/bindery/bindery/PartIndex", "room", "(I)I"⟩ : MethodName)) hown (mvT hZ (wI hw 9 rfl)) (mvT hZ (wI hw 10 rfl)) (mvT hZ (wI hw 2 rfl)) (mvT hZ (wI hw 11 rfl)) (by decide) (backOf (W := 1) (rmRo l Z a0 hw [] p1 h0 n0 (Nat.le_trans Z0 K0.1) ) hZ (wI hw 11 rfl) (wI hw 2 rfl) (by decide) (by decide)) (g := (mkF m 6 #[rv a1, iv p1] [(.int p1), (.ref a1)])) rfl (by rw [hml]; rfl) (argsL := [(.int p1)]) (rest := [(.ref a1)]) (lenOf pd_1 rfl) rfl (by show 2 * 0 + _ ≤ _; exact Nat.le_of_eq rfl) (hb hby d1_6) (fun _ _ => ⟨rfl, e1, (by decide : 0 + 0 ≤ _), (by decide : 0 + 0 ≤ _)⟩)
  dsimp only [Pt.U, Pt.locs, Pt.cells, Pt.slots] at X2 l2 y2 z2 st2 hQ2
  have l2 := l2.symm; have y2 := y2.symm; have z2 := z2.symm; subst l2 y2 z2
  have X2 : Stand p l e ({ frames := 2, cells := 2, slots := 48, locals := 29 } : Room) s m #[(.ref a1), (.int p1)] below meth c T2 _ 0 0 := X2
  obtain ⟨rfl, M2, e2⟩ := hQ2
  have N2 := Fr.app N0 M2
  refine Goes.on (fun t k => st2 _ k) ?_
  show Goes p e below QQ (T2.setTop (mkF m 9 #[rv a1, iv p1] [(.int (roomF p1)), (.ref a1)]))
  rw [hr]
  show Goes p e below QQ (T2.setTop (mkF m 9 #[rv a1, iv p1] [(.int nn), (.ref a1)]))
  obtain ⟨T3, h3, k3, X3, e3, E3, A3, st3⟩ := newP X2 hx hZ (wI hw 20 rfl) e2 (g := (mkF m 9 #[rv a1, iv p1] [(.int nn), (.ref a1)])) rfl (hb hby d1_9) rfl (own_n0 nn (by omega)) (cap := 16) (own_n1 nn 16 (by omega)) (by decide) (by decide) (by decide)
  obtain ⟨b3, g3⟩ : ∃ z, z = h0.size := ⟨_, rfl⟩
  rw [← g3] at A3 st3
  have sz_b3 : h0.size ≤ b3 := Nat.le_trans K0.1 (Nat.le_of_eq g3.symm)
  have g_b3 : n0 ≤ b3 := Nat.le_trans Z0 sz_b3
  have ne_a1_b3 : a1 ≠ b3 := Nat.ne_of_lt (Nat.lt_of_lt_of_le E_a1.lt (Nat.le_of_eq g3.symm))
  have E_4 := E_a1.ext E3
  have F_5 := F_hashes_a1.ext E3
  have F_6 := F_slots_a1.ext E3
  have F_7 := F_shift_a1.ext E3
  have F_8 := F_size_a1.ext E3
  have K3 := K0.ext E3
  have X3 : Stand p l e ({ frames := 2, cells := 2, slots := 48, locals := 29 } : Room) s m #[(.ref a1), (.int p1)] below meth c T3 _ 1 16 := X3
  have V_9 : Arv Z h3 b3 k3 .int nn [(.int 0), (.int 0), (.int 0)] (.int 0) := (Arv.new A3 (own_n0 nn (by omega))).pad (pad_rep [] (.int 0) 3)
  refine Goes.on (fun t k => st3 t k) ?_
  show Goes p e below QQ (T3.setTop (mkF m 11 #[rv a1, iv p1] [(.ref b3), (.ref a1)]))
  obtain ⟨T10, h10, X10, e10, W10, st10⟩ := putF X3 hx hZ hown (host := "") (Or.inl (wI hw 21 rfl)) Via.refl e3 F_5 E_4 (Or.inl (wI hw 22 rfl)) (wI hw 1 rfl) (ty := (.array .int)) (by decide) rfl rfl (g := (mkF m 11 #[rv a1, iv p1] [(.ref b3), (.ref a1)])) rfl rfl (hb hby d1_11)
  have E_11 := E_4.wr W10
  have F_12 := F_6.other W10 (Or.inr (slot_ne (Or.inl (wI hw 30 rfl)) (Or.inl (wI hw 22 rfl)) (by decide) (t := (.array .int)) (t' := (.array .int)) (by decide) (by decide)))
  have F_13 := F_7.other W10 (Or.inr (slot_ne (Or.inl (wI hw 61 rfl)) (Or.inl (wI hw 22 rfl)) (by decide) (t := .int) (t' := (.array .int)) (by decide) (by decide)))
  have F_14 := F_8.other W10 (Or.inr (slot_ne (Or.inl (wI hw 32 rfl)) (Or.inl (wI hw 22 rfl)) (by decide) (t := .int) (t' := (.array .int)) (by decide) (by decide)))
  have V_15 := V_9.other W10 (Ne.symm ne_a1_b3)
  have K10 := K3.wr W10 (Or.inl (List.mem_of_getElem? (i := 0) rfl))
  have N10 := Fr.snoc X10 N2 g_a1
  have F_16 : Fld Z h10 a1 "com/example/bindery/bindery/PartIndex" "hashes" "[I" (.ref b3) := F_5.same W10
  refine Goes.on (fun t k => st10 t k) ?_
  show Goes p e below QQ (T10.setTop (mkF m 14 #[rv a1, iv p1] []))
  refine G1 (XS.aloadN X10.here hx rfl (hb hby d1_14) rfl rfl) ?_
  show Goes p e below QQ (T10.setTop (mkF m 15 #[rv a1, iv p1] [(.ref a1)]))
  obtain ⟨T17, X17, e17, st17⟩ := getF X10 hx hZ hown (host := "") (Or.inl (wI hw 21 rfl)) Via.refl e10 F_16 (g := (mkF m 15 #[rv a1, iv p1] [(.ref a1)])) rfl rfl (hb hby d1_15)
  refine Goes.on (fun t k => st17 t k) ?_
  show Goes p e below QQ (T17.setTop (mkF m 18 #[rv a1, iv p1] [(.ref b3)]))
  obtain ⟨cl18, Ar18, aq18, aS18, aN18, aH18, aG18⟩ := id V_15
  refine Goes.on (fun t k => X17.arraylength hx (by rw [e17]; exact Ar18.1) (State.isArrayOf_alike hZ.alike Ar18.2.1) (g := (mkF m 18 #[rv a1, iv p1] [(.ref b3)])) rfl rfl (hb hby d1_18) t k) ?_
  rw [len_of aS18 aN18]
  show Goes p e below QQ (T17.setTop (mkF m 19 #[rv a1, iv p1] [(.int nn)]))
  refine G1 (XS.bipush X17.here hx rfl (hb hby d1_19)) ?_
  show Gs p e below QQ T17 m 21 #[rv a1, iv p1] [(.int 8), (.int nn)]
  refine G1 (XS.icmpNo X17.here hx rfl (hb hby d1_21) rfl (tlt (own_8b nn (by omega))).2.2.2) ?_
  show Gs p e below QQ T17 m 24 #[rv a1, iv p1] []
  refine G1 (XS.aloadN X17.here hx rfl (hb hby d1_24) rfl rfl) ?_
  refine G1 (XS.aloadN X17.here hx rfl (hb hby d1_25) rfl rfl) ?_
  show Goes p e below QQ (T17.setTop (mkF m 26 #[rv a1, iv p1] [(.ref a1), (.ref a1)]))
  obtain ⟨T19, X19, e19, st19⟩ := getF X17 hx hZ hown (host := "") (Or.inl (wI hw 21 rfl)) Via.refl e17 F_16 (g := (mkF m 26 #[rv a1, iv p1] [(.ref a1), (.ref a1)])) rfl rfl (hb hby d1_26)
  refine Goes.on (fun t k => st19 t k) ?_
  show Goes p e below QQ (T19.setTop (mkF m 29 #[rv a1, iv p1] [(.ref b3), (.ref a1)]))
  obtain ⟨cl20, Ar20, aq20, aS20, aN20, aH20, aG20⟩ := id V_15
  refine Goes.on (fun t k => X19.arraylength hx (by rw [e19]; exact Ar20.1) (State.isArrayOf_alike hZ.alike Ar20.2.1) (g := (mkF m 29 #[rv a1, iv p1] [(.ref b3), (.ref a1)])) rfl rfl (hb hby d1_29) t k) ?_
  rw [len_of aS20 aN20]
  show Goes p e below QQ (T19.setTop (mkF m 30 #[rv a1, iv p1] [(.int nn), (.ref a1)]))
  obtain ⟨cq21, q21, q21'⟩ := E_11.cell
  obtain ⟨_, _, ⟨T21, L21, k21, n21⟩, -, X21, ⟨Lc21, hQ21, l21, y21, z21⟩, st21⟩ := X19.privateBack hx (y := (⟨"com/example/bindery/bindery/PartIndex", "makeSlots", "(I)V"⟩ : MethodName)) hown (mvT hZ (wI hw 51 rfl)) (mvT hZ (wI hw 52 rfl)) (mvT hZ (own_selects (y := (⟨"com/example/bindery/bindery/PartIndex", "makeSlots", "(I)V"⟩ : MethodName)) (wI hw 52 rfl) (wI hw 53 rfl) (wI hw 1 rfl) (by decide))) (Cond.privateMethod_at (mvP hZ (wI hw 53 rfl) (args := #[]))) (mvT hZ (wI hw 54 rfl)) (by decide) (backOf (W := 0) (rmMk l Z a0 hw [] a1 b3 nn h10 n0 (Nat.le_trans Z0 K10.1) E_11 F_16 F_12 F_13 F_14 g_a1 (own_two nn hn)) hZ (wI hw 54 rfl) (wI hw 2 rfl) (by decide) (by decide)) (g := (mkF m 30 #[rv a1, iv p1] [(.int nn), (.ref a1)])) rfl (by rw [hml]; rfl) (Steps.refl _) (a := a1) (by rw [e19]; exact q21) q21' (argsL := [(.int nn)]) (rest := []) (lenOf pd_2 rfl) rfl (by show 2 * 0 + _ ≤ _; exact Nat.le_of_eq rfl) (hb hby d1_30) (fun _ _ => ⟨rfl, e19, (by decide : 1 + 1 ≤ _), (by decide : 16 + 32 ≤ _)⟩)
  dsimp only [Pt.U, Pt.locs, Pt.cells, Pt.slots] at X21 l21 y21 z21 st21 hQ21
  have l21 := l21.symm; have y21 := y21.symm; have z21 := z21.symm; subst l21 y21 z21
  have X21 : Stand p l e ({ frames := 2, cells := 2, slots := 48, locals := 29 } : Room) s m #[(.ref a1), (.int p1)] below meth c T21 _ 2 48 := X21
  obtain ⟨d5, kd5, rfl, M21, Km, szd, ⟨hashes_m, slots_m, shift_m, size_m⟩, Vd⟩ := hQ21
  have sz_d5 : h0.size ≤ d5 := Nat.le_trans K10.1 szd
  have g_d5 : n0 ≤ d5 := Nat.le_trans Z0 sz_d5
  have ne_a1_d5 : a1 ≠ d5 := Nat.ne_of_lt (Nat.lt_of_lt_of_le E_11.lt szd)
  have ne_b3_d5 : b3 ≠ d5 := Nat.ne_of_lt (Nat.lt_of_lt_of_le V_15.lt szd)
  have N21 := Fr.app N10 M21
  refine Goes.on (fun t k => st21.trans k) ?_
  have E_22 := E_11.keep Km
  have V_27 := V_15.keep Km (ninS (Ne.symm ne_a1_b3) nin0)
  have K28 := K10.trans Km (allS (Or.inl (List.mem_of_getElem? (i := 0) rfl)) all0)
  show Goes p e below QQ (T21.setTop (mkF m 33 #[rv a1, iv p1] []))
  exact Goes.rV X21 hx hret hlk (hb hby d1_33) hQQ ⟨b3, k3, d5, kd5, rfl, N21, K28, sz_b3, sz_d5, ne_b3_d5, ⟨hashes_m, slots_m, shift_m, size_m⟩, V_27, Vd⟩ (by decide) (by decide)
theorem d9_0 : decode jdk_65_method_123_code 0 = .ok (.iload_n 1, 1) := by decide +kernel
theorem d9_1 : decode jdk_65_method_123_code 1 = .ok (.aload_n 0, 1) := by decide +kernel
theorem d9_2 : decode jdk_65_method_123_code 2 = .ok (.arraylength, 1) := by decide +kernel
theorem d9_3 : decode jdk_65_method_123_code 3 = .ok (.if_icmp .ne 11, 3) := by decide +kernel
theorem d9_6 : decode jdk_65_method_123_code 6 = .ok (.aload_n 0, 1) := by decide +kernel
theorem d9_7 : decode jdk_65_method_123_code 7 = .ok (.invokevirtual 316, 3) := by decide +kernel
theorem d9_10 : decode jdk_65_method_123_code 10 = .ok (.checkcast 317, 3) := by decide +kernel
theorem d9_13 : decode jdk_65_method_123_code 13 = .ok (.areturn, 1) := by decide +kernel
theorem d9_14 : decode jdk_65_method_123_code 14 = .ok (.iload_n 1, 1) := by decide +kernel
theorem d9_15 : decode jdk_65_method_123_code 15 = .ok (.newarray .int, 2) := by decide +kernel
theorem d9_17 : decode jdk_65_method_123_code 17 = .ok (.astore_n 2, 1) := by decide +kernel
theorem d9_18 : decode jdk_65_method_123_code 18 = .ok (.aload_n 0, 1) := by decide +kernel
theorem d9_19 : decode jdk_65_method_123_code 19 = .ok (.iconst 0, 1) := by decide +kernel
theorem d9_20 : decode jdk_65_method_123_code 20 = .ok (.aload_n 2, 1) := by decide +kernel
theorem d9_21 : decode jdk_65_method_123_code 21 = .ok (.iconst 0, 1) := by decide +kernel
theorem d9_22 : decode jdk_65_method_123_code 22 = .ok (.aload_n 0, 1) := by decide +kernel
theorem d9_23 : decode jdk_65_method_123_code 23 = .ok (.arraylength, 1) := by decide +kernel
theorem d9_24 : decode jdk_65_method_123_code 24 = .ok (.iload_n 1, 1) := by decide +kernel
theorem d9_25 : decode jdk_65_method_123_code 25 = .ok (.invokestatic 304, 3) := by decide +kernel
theorem d9_28 : decode jdk_65_method_123_code 28 = .ok (.invokestatic 150, 3) := by decide +kernel
theorem d9_31 : decode jdk_65_method_123_code 31 = .ok (.aload_n 2, 1) := by decide +kernel
theorem d9_32 : decode jdk_65_method_123_code 32 = .ok (.areturn, 1) := by decide +kernel
theorem pn_9 : plainFor (⟨"java/util/Arrays", "copyOf", "([II)[I"⟩ : MethodName) = true := plainFor_of_name (show plainName "java/util/Arrays" = true by first | (simp [plainName, overriddenIn]; done) | decide +kernel)
theorem ef_rmCp0 (m : MethodId) (x0 : Addr) (x1 : Int32) : entryFrame m #[(.ref x0), (.int x1)] 3 = mkF m 0 #[rv x0, iv x1, .unset] [] := by first | (simp [entryFrame, mkF, argsToLocals, Value.category]; done) | rfl
set_option maxRecDepth 65536 in
set_option maxHeartbeats 40000000 in
theorem rmCp0 (l : Launch) (Z : State) (a0 : Array Value) (hw : ∀ d ∈ tables_1, d.before a0 Z = true) (ws : List Jvm.Cond) (a1 : Addr) (kk : ClassId) (x0 x1 x2 : Int32) (h0 : Heap) (n0 : Nat) (Z0 : n0 ≤ h0.size) (V_a1 : Arv Z h0 a1 kk .int (0 : Int32) [(.int x0), (.int x1), (.int x2)] (.int 0)) :
    MetFree l (⟨"java/util/Arrays", "copyOf", "([II)[I"⟩ : MethodName) (head1 (Jvm.Cond.code (⟨"java/util/Arrays", "copyOf", "([II)[I"⟩ : MethodName) jdk_65_method_123_code 3 (some (.array .int)) :: ws) ({ frames := 1, cells := 1, slots := 4, locals := 40 } : Room)) (fun a U => a = #[(.ref a1), (.int 4)] ∧ Z.Warmed39 U.vm ∧ U.heap = h0) (fun _ _ _ _ _ => True) (fun _ U o U' => ∃ v L, o = .returned v ∧ QCp Z [(.int 0), (.int 0), (.int 0), (.int 0)] h0 n0 v U'.heap L ∧ FrameEnd U o U' L ({ frames := 1, cells := 1, slots := 4, locals := 40 } : Room).cells ({ frames := 1, cells := 1, slots := 4, locals := 40 } : Room).slots) := by
  refine own_enter pn_9 ?_
  intro p e s m below meth c s₁ QQ hQQ hx hby hml hown hnm hret hlk hZ X0 e0
  have hown : s.vm.findClass "java/util/Arrays" = some m.cls := hown
  have hml : c.maxLocals = 3 := hml
  have hret : meth.sig.returnType = some (.array .int) := hret
  have N0 := Fr.nil n0
  have K0 := Keep.refl h0 []
  refine Goes.cast (ef_rmCp0 m a1 (4 : Int32)) ?_
  show Goes p e below QQ (s₁.setTop (mkF m 0 #[rv a1, iv 4, .unset] []))
  refine G1 (XS.iloadN X0.here hx rfl (hb hby d9_0) rfl) ?_
  refine G1 (XS.aloadN X0.here hx rfl (hb hby d9_1) rfl rfl) ?_
  show Goes p e below QQ (s₁.setTop (mkF m 2 #[rv a1, iv 4, .unset] [(.ref a1), (.int 4)]))
  obtain ⟨cl1, Ar1, aq1, aS1, aN1, aH1, aG1⟩ := id V_a1
  refine Goes.on (fun t k => X0.arraylength hx (by rw [e0]; exact Ar1.1) (State.isArrayOf_alike hZ.alike Ar1.2.1) (g := (mkF m 2 #[rv a1, iv 4, .unset] [(.ref a1), (.int 4)])) rfl rfl (hb hby d9_2) t k) ?_
  rw [len_of aS1 aN1]
  show Goes p e below QQ (s₁.setTop (mkF m 3 #[rv a1, iv 4, .unset] [(.int 0), (.int 4)]))
  refine G1 (XS.icmpYes X0.here hx rfl (pc0 := 3) (pc' := 14) rfl (hb hby d9_3) rfl (feq (by decide)).2 (by decide) (by decide)) ?_
  show Gs p e below QQ s₁ m 14 #[rv a1, iv 4, .unset] []
  refine G1 (XS.iloadN X0.here hx rfl (hb hby d9_14) rfl) ?_
  show Goes p e below QQ (s₁.setTop (mkF m 15 #[rv a1, iv 4, .unset] [(.int 4)]))
  obtain ⟨T2, h2, k2, X2, e2, E2, A2, st2⟩ := newP X0 hx hZ (wI hw 20 rfl) e0 (g := (mkF m 15 #[rv a1, iv 4, .unset] [(.int 4)])) rfl (hb hby d9_15) rfl (by decide) (cap := 4) (by decide) (by decide) (by decide) (by decide)
  obtain ⟨b2, g2⟩ : ∃ z, z = h0.size := ⟨_, rfl⟩
  rw [← g2] at A2 st2
  have sz_b2 : h0.size ≤ b2 := Nat.le_trans K0.1 (Nat.le_of_eq g2.symm)
  have g_b2 : n0 ≤ b2 := Nat.le_trans Z0 sz_b2
  have ne_a1_b2 : a1 ≠ b2 := Nat.ne_of_lt (Nat.lt_of_lt_of_le V_a1.lt (Nat.le_of_eq g2.symm))
  have V_3 := V_a1.ext E2
  have K2 := K0.ext E2
  have X2 : Stand p l e ({ frames := 1, cells := 1, slots := 4, locals := 40 } : Room) s m #[(.ref a1), (.int 4)] below meth c T2 _ 1 4 := X2
  have V_4 : Arv Z h2 b2 k2 .int (4 : Int32) [(.int 0), (.int 0), (.int 0), (.int 0)] (.int 0) := (Arv.new A2 (by decide)).pad (pad_rep [] (.int 0) 4)
  refine Goes.on (fun t k => st2 t k) ?_
  show Goes p e below QQ (T2.setTop (mkF m 17 #[rv a1, iv 4, .unset] [(.ref b2)]))
  refine G1 (XS.astoreN X2.here hx rfl (hb hby d9_17) rfl rfl (l' := #[rv a1, iv 4, rv b2]) rfl) ?_
  refine G1 (XS.aloadN X2.here hx rfl (hb hby d9_18) rfl rfl) ?_
  refine G1 (XS.iconst X2.here hx rfl (hb hby d9_19)) ?_
  show Gs p e below QQ T2 m 20 #[rv a1, iv 4, rv b2] [(.int 0), (.ref a1)]
  refine G1 (XS.aloadN X2.here hx rfl (hb hby d9_20) rfl rfl) ?_
  refine G1 (XS.iconst X2.here hx rfl (hb hby d9_21)) ?_
  refine G1 (XS.aloadN X2.here hx rfl (hb hby d9_22) rfl rfl) ?_
  show Goes p e below QQ (T2.setTop (mkF m 23 #[rv a1, iv 4, rv b2] [(.ref a1), (.int 0), (.ref b2), (.int 0), (.ref a1)]))
  obtain ⟨cl5, Ar5, aq5, aS5, aN5, aH5, aG5⟩ := id V_3
  refine Goes.on (fun t k => X2.arraylength hx (by rw [e2]; exact Ar5.1) (State.isArrayOf_alike hZ.alike Ar5.2.1) (g := (mkF m 23 #[rv a1, iv 4, rv b2] [(.ref a1), (.int 0), (.ref b2), (.int 0), (.ref a1)])) rfl rfl (hb hby d9_23) t k) ?_
  rw [len_of aS5 aN5]
  show Goes p e below QQ (T2.setTop (mkF m 24 #[rv a1, iv 4, rv b2] [(.int 0), (.int 0), (.ref b2), (.int 0), (.ref a1)]))
  refine G1 (XS.iloadN X2.here hx rfl (hb hby d9_24) rfl) ?_
  show Goes p e below QQ (T2.setTop (mkF m 25 #[rv a1, iv 4, rv b2] [(.int 4), (.int 0), (.int 0), (.ref b2), (.int 0), (.ref a1)]))
  obtain ⟨_, _, ⟨T6, L6, k6, n6⟩, -, X6, ⟨Lc6, hQ6, l6, y6, z6⟩, st6⟩ := Jvm.LawKit.callS X2 hx (y := (⟨"java/lang/Math", "min", "(II)I"⟩ : MethodName)) hown (mvT hZ (wI hw 46 rfl)) (mvT hZ (wI hw 18 rfl)) (mvT hZ (wI hw 14 rfl)) (mvT hZ (wI hw 19 rfl)) (by decide) (backOf (W := 4) (rmMn l Z a0 hw [] (0 : Int32) (4 : Int32) h2 n0 (Nat.le_trans Z0 K2.1) ) hZ (wI hw 19 rfl) (wI hw 14 rfl) (by decide) (by decide)) (g := (mkF m 25 #[rv a1, iv 4, rv b2] [(.int 4), (.int 0), (.int 0), (.ref b2), (.int 0), (.ref a1)])) rfl (by rw [hml]; rfl) (argsL := [(.int 0), (.int 4)]) (rest := [(.int 0), (.ref b2), (.int 0), (.ref a1)]) (lenOf pd_0 rfl) rfl (by show 2 * 0 + _ ≤ _; exact Nat.le_of_eq rfl) (hb hby d9_25) (fun _ _ => ⟨rfl, e2, (by decide : 1 + 0 ≤ _), (by decide : 4 + 0 ≤ _)⟩)
  dsimp only [Pt.U, Pt.locs, Pt.cells, Pt.slots] at X6 l6 y6 z6 st6 hQ6
  have l6 := l6.symm; have y6 := y6.symm; have z6 := z6.symm; subst l6 y6 z6
  have X6 : Stand p l e ({ frames := 1, cells := 1, slots := 4, locals := 40 } : Room) s m #[(.ref a1), (.int 4)] below meth c T6 _ 1 4 := X6
  obtain ⟨rfl, M6, e6⟩ := hQ6
  have N6 := Fr.app N0 M6
  refine Goes.on (fun t k => st6 _ k) ?_
  show Goes p e below QQ (T6.setTop (mkF m 28 #[rv a1, iv 4, rv b2] [(.int (minF (0 : Int32) (4 : Int32))), (.int 0), (.ref b2), (.int 0), (.ref a1)]))
  rw [(by decide : minF (0 : Int32) (4 : Int32) = (0 : Int32))]
  show Goes p e below QQ (T6.setTop (mkF m 28 #[rv a1, iv 4, rv b2] [(.int 0), (.int 0), (.ref b2), (.int 0), (.ref a1)]))
  obtain ⟨T7, h7, L7, X7, e7, N7, Kc, Vc, st7⟩ := cpA X6 hx hZ hown (wI hw 47 rfl) (wI hw 50 rfl) (wI hw 48 rfl) (wI hw 49 rfl) e6 V_3 V_4 (Or.inl ⟨rfl, rfl⟩) (by decide) (by decide) (by decide) (by decide) (by decide) (us := []) rfl (by decide) N6 g_b2 (g := (mkF m 28 #[rv a1, iv 4, rv b2] [(.int 0), (.int 0), (.ref b2), (.int 0), (.ref a1)])) rfl (by rw [hml]; rfl) rfl (hb hby d9_28) (by decide) (W := 0) (by show 2 * 0 + _ ≤ _; exact Nat.le_of_eq rfl) (by decide)
  have V_8 := V_3.keep Kc (ninS ne_a1_b2 nin0)
  have K10 := K2.trans Kc (allS (Or.inr sz_b2) all0)
  refine Goes.on (fun t k => st7 t k) ?_
  show Goes p e below QQ (T7.setTop (mkF m 31 #[rv a1, iv 4, rv b2] []))
  refine G1 (XS.aloadN X7.here hx rfl (hb hby d9_31) rfl rfl) ?_
  show Goes p e below QQ (T7.setTop (mkF m 32 #[rv a1, iv 4, rv b2] [(.ref b2)]))
  exact Goes.rA X7 hx hret rfl rfl hlk (hb hby d9_32) hQQ (by rw [e7]; exact ⟨b2, k2, rfl, N7, K10, sz_b2, Vc⟩) (by decide) (by decide)
theorem ef_rmCp1 (m : MethodId) (x0 : Addr) (x1 : Int32) : entryFrame m #[(.ref x0), (.int x1)] 3 = mkF m 0 #[rv x0, iv x1, .unset] [] := by first | (simp [entryFrame, mkF, argsToLocals, Value.category]; done) | rfl
set_option maxRecDepth 65536 in
set_option maxHeartbeats 40000000 in
theorem rmCp1 (l : Launch) (Z : State) (a0 : Array Value) (hw : ∀ d ∈ tables_1, d.before a0 Z = true) (ws : List Jvm.Cond) (a1 : Addr) (kk : ClassId) (x0 x1 x2 : Int32) (h0 : Heap) (n0 : Nat) (Z0 : n0 ≤ h0.size) (V_a1 : Arv Z h0 a1 kk .int (1 : Int32) [(.int x0), (.int x1), (.int x2)] (.int 0)) :
    MetFree l (⟨"java/util/Arrays", "copyOf", "([II)[I"⟩ : MethodName) (head1 (Jvm.Cond.code (⟨"java/util/Arrays", "copyOf", "([II)[I"⟩ : MethodName) jdk_65_method_123_code 3 (some (.array .int)) :: ws) ({ frames := 1, cells := 1, slots := 4, locals := 40 } : Room)) (fun a U => a = #[(.ref a1), (.int 4)] ∧ Z.Warmed39 U.vm ∧ U.heap = h0) (fun _ _ _ _ _ => True) (fun _ U o U' => ∃ v L, o = .returned v ∧ QCp Z [(.int x0), (.int 0), (.int 0), (.int 0)] h0 n0 v U'.heap L ∧ FrameEnd U o U' L ({ frames := 1, cells := 1, slots := 4, locals := 40 } : Room).cells ({ frames := 1, cells := 1, slots := 4, locals := 40 } : Room).slots) := by
  refine own_enter pn_9 ?_
  intro p e s m below meth c s₁ QQ hQQ hx hby hml hown hnm hret hlk hZ X0 e0
  have hown : s.vm.findClass "java/util/Arrays" = some m.cls := hown
  have hml : c.maxLocals = 3 := hml
  have hret : meth.sig.returnType = some (.array .int) := hret
  have N0 := Fr.nil n0
  have K0 := Keep.refl h0 []
  refine Goes.cast (ef_rmCp1 m a1 (4 : Int32)) ?_
  show Goes p e below QQ (s₁.setTop (mkF m 0 #[rv a1, iv 4, .unset] []))
  refine G1 (XS.iloadN X0.here hx rfl (hb hby d9_0) rfl) ?_
  refine G1 (XS.aloadN X0.here hx rfl (hb hby d9_1) rfl rfl) ?_
  show Goes p e below QQ (s₁.setTop (mkF m 2 #[rv a1, iv 4, .unset] [(.ref a1), (.int 4)]))
  obtain ⟨cl1, Ar1, aq1, aS1, aN1, aH1, aG1⟩ := id V_a1
  refine Goes.on (fun t k => X0.arraylength hx (by rw [e0]; exact Ar1.1) (State.isArrayOf_alike hZ.alike Ar1.2.1) (g := (mkF m 2 #[rv a1, iv 4, .unset] [(.ref a1), (.int 4)])) rfl rfl (hb hby d9_2) t k) ?_
  rw [len_of aS1 aN1]
  show Goes p e below QQ (s₁.setTop (mkF m 3 #[rv a1, iv 4, .unset] [(.int 1), (.int 4)]))
  refine G1 (XS.icmpYes X0.here hx rfl (pc0 := 3) (pc' := 14) rfl (hb hby d9_3) rfl (feq (by decide)).2 (by decide) (by decide)) ?_
  show Gs p e below QQ s₁ m 14 #[rv a1, iv 4, .unset] []
  refine G1 (XS.iloadN X0.here hx rfl (hb hby d9_14) rfl) ?_
  show Goes p e below QQ (s₁.setTop (mkF m 15 #[rv a1, iv 4, .unset] [(.int 4)]))
  obtain ⟨T2, h2, k2, X2, e2, E2, A2, st2⟩ := newP X0 hx hZ (wI hw 20 rfl) e0 (g := (mkF m 15 #[rv a1, iv 4, .unset] [(.int 4)])) rfl (hb hby d9_15) rfl (by decide) (cap := 4) (by decide) (by decide) (by decide) (by decide)
  obtain ⟨b2, g2⟩ : ∃ z, z = h0.size := ⟨_, rfl⟩
  rw [← g2] at A2 st2
  have sz_b2 : h0.size ≤ b2 := Nat.le_trans K0.1 (Nat.le_of_eq g2.symm)
  have g_b2 : n0 ≤ b2 := Nat.le_trans Z0 sz_b2
  have ne_a1_b2 : a1 ≠ b2 := Nat.ne_of_lt (Nat.lt_of_lt_of_le V_a1.lt (Nat.le_of_eq g2.symm))
  have V_3 := V_a1.ext E2
  have K2 := K0.ext E2
  have X2 : Stand p l e ({ frames := 1, cells := 1, slots := 4, locals := 40 } : Room) s m #[(.ref a1), (.int 4)] below meth c T2 _ 1 4 := X2
  have V_4 : Arv Z h2 b2 k2 .int (4 : Int32) [(.int 0), (.int 0), (.int 0), (.int 0)] (.int 0) := (Arv.new A2 (by decide)).pad (pad_rep [] (.int 0) 4)
  refine Goes.on (fun t k => st2 t k) ?_
  show Goes p e below QQ (T2.setTop (mkF m 17 #[rv a1, iv 4, .unset] [(.ref b2)]))
  refine G1 (XS.astoreN X2.here hx rfl (hb hby d9_17) rfl rfl (l' := #[rv a1, iv 4, rv b2]) rfl) ?_
  refine G1 (XS.aloadN X2.here hx rfl (hb hby d9_18) rfl rfl) ?_
  refine G1 (XS.iconst X2.here hx rfl (hb hby d9_19)) ?_
  show Gs p e below QQ T2 m 20 #[rv a1, iv 4, rv b2] [(.int 0), (.ref a1)]
  refine G1 (XS.aloadN X2.here hx rfl (hb hby d9_20) rfl rfl) ?_
  refine G1 (XS.iconst X2.here hx rfl (hb hby d9_21)) ?_
  refine G1 (XS.aloadN X2.here hx rfl (hb hby d9_22) rfl rfl) ?_
  show Goes p e below QQ (T2.setTop (mkF m 23 #[rv a1, iv 4, rv b2] [(.ref a1), (.int 0), (.ref b2), (.int 0), (.ref a1)]))
  obtain ⟨cl5, Ar5, aq5, aS5, aN5, aH5, aG5⟩ := id V_3
  refine Goes.on (fun t k => X2.arraylength hx (by rw [e2]; exact Ar5.1) (State.isArrayOf_alike hZ.alike Ar5.2.1) (g := (mkF m 23 #[rv a1, iv 4, rv b2] [(.ref a1), (.int 0), (.ref b2), (.int 0), (.ref a1)])) rfl rfl (hb hby d9_23) t k) ?_
  rw [len_of aS5 aN5]
  show Goes p e below QQ (T2.setTop (mkF m 24 #[rv a1, iv 4, rv b2] [(.int 1), (.int 0), (.ref b2), (.int 0), (.ref a1)]))
  refine G1 (XS.iloadN X2.here hx rfl (hb hby d9_24) rfl) ?_
  show Goes p e below QQ (T2.setTop (mkF m 25 #[rv a1, iv 4, rv b2] [(.int 4), (.int 1), (.int 0), (.ref b2), (.int 0), (.ref a1)]))
  obtain ⟨_, _, ⟨T6, L6, k6, n6⟩, -, X6, ⟨Lc6, hQ6, l6, y6, z6⟩, st6⟩ := Jvm.LawKit.callS X2 hx (y := (⟨"java/lang/Math", "min", "(II)I"⟩ : MethodName)) hown (mvT hZ (wI hw 46 rfl)) (mvT hZ (wI hw 18 rfl)) (mvT hZ (wI hw 14 rfl)) (mvT hZ (wI hw 19 rfl)) (by decide) (backOf (W := 4) (rmMn l Z a0 hw [] (1 : Int32) (4 : Int32) h2 n0 (Nat.le_trans Z0 K2.1) ) hZ (wI hw 19 rfl) (wI hw 14 rfl) (by decide) (by decide)) (g := (mkF m 25 #[rv a1, iv 4, rv b2] [(.int 4), (.int 1), (.int 0), (.ref b2), (.int 0), (.ref a1)])) rfl (by rw [hml]; rfl) (argsL := [(.int 1), (.int 4)]) (rest := [(.int 0), (.ref b2), (.int 0), (.ref a1)]) (lenOf pd_0 rfl) rfl (by show 2 * 0 + _ ≤ _; exact Nat.le_of_eq rfl) (hb hby d9_25) (fun _ _ => ⟨rfl, e2, (by decide : 1 + 0 ≤ _), (by decide : 4 + 0 ≤ _)⟩)
  dsimp only [Pt.U, Pt.locs, Pt.cells, Pt.slots] at X6 l6 y6 z6 st6 hQ6
  have l6 := l6.symm; have y6 := y6.symm; have z6 := z6.symm; subst l6 y6 z6
  have X6 : Stand p l e ({ frames := 1, cells := 1, slots := 4, locals := 40 } : Room) s m #[(.ref a1), (.int 4)] below meth c T6 _ 1 4 := X6
  obtain ⟨rfl, M6, e6⟩ := hQ6
  have N6 := Fr.app N0 M6
  refine Goes.on (fun t k => st6 _ k) ?_
  show Goes p e below QQ (T6.setTop (mkF m 28 #[rv a1, iv 4, rv b2] [(.int (minF (1 : Int32) (4 : Int32))), (.int 0), (.ref b2), (.int 0), (.ref a1)]))
  rw [(by decide : minF (1 : Int32) (4 : Int32) = (1 : Int32))]
  show Goes p e below QQ (T6.setTop (mkF m 28 #[rv a1, iv 4, rv b2] [(.int 1), (.int 0), (.ref b2), (.int 0), (.ref a1)]))
  obtain ⟨T7, h7, L7, X7, e7, N7, Kc, Vc, st7⟩ := cpA X6 hx hZ hown (wI hw 47 rfl) (wI hw 50 rfl) (wI hw 48 rfl) (wI hw 49 rfl) e6 V_3 V_4 (Or.inl ⟨rfl, rfl⟩) (by decide) (by decide) (by decide) (by decide) (by decide) (us := [(.int x0)]) rfl (by decide) N6 g_b2 (g := (mkF m 28 #[rv a1, iv 4, rv b2] [(.int 1), (.int 0), (.ref b2), (.int 0), (.ref a1)])) rfl (by rw [hml]; rfl) rfl (hb hby d9_28) (by decide) (W := 0) (by show 2 * 0 + _ ≤ _; exact Nat.le_of_eq rfl) (by decide)
  have V_8 := V_3.keep Kc (ninS ne_a1_b2 nin0)
  have K10 := K2.trans Kc (allS (Or.inr sz_b2) all0)
  refine Goes.on (fun t k => st7 t k) ?_
  show Goes p e below QQ (T7.setTop (mkF m 31 #[rv a1, iv 4, rv b2] []))
  refine G1 (XS.aloadN X7.here hx rfl (hb hby d9_31) rfl rfl) ?_
  show Goes p e below QQ (T7.setTop (mkF m 32 #[rv a1, iv 4, rv b2] [(.ref b2)]))
  exact Goes.rA X7 hx hret rfl rfl hlk (hb hby d9_32) hQQ (by rw [e7]; exact ⟨b2, k2, rfl, N7, K10, sz_b2, Vc⟩) (by decide) (by decide)
theorem ef_rmCp2 (m : MethodId) (x0 : Addr) (x1 : Int32) : entryFrame m #[(.ref x0), (.int x1)] 3 = mkF m 0 #[rv x0, iv x1, .unset] [] := by first | (simp [entryFrame, mkF, argsToLocals, Value.category]; done) | rfl
set_option maxRecDepth 65536 in
set_option maxHeartbeats 40000000 in
theorem rmCp2 (l : Launch) (Z : State) (a0 : Array Value) (hw : ∀ d ∈ tables_1, d.before a0 Z = true) (ws : List Jvm.Cond) (a1 : Addr) (kk : ClassId) (x0 x1 x2 : Int32) (h0 : Heap) (n0 : Nat) (Z0 : n0 ≤ h0.size) (V_a1 : Arv Z h0 a1 kk .int (2 : Int32) [(.int x0), (.int x1), (.int x2)] (.int 0)) :
    MetFree l (⟨"java/util/Arrays", "copyOf", "([II)[I"⟩ : MethodName) (head1 (Jvm.Cond.code (⟨"java/util/Arrays", "copyOf", "([II)[I"⟩ : MethodName) jdk_65_method_123_code 3 (some (.array .int)) :: ws) ({ frames := 1, cells := 1, slots := 4, locals := 40 } : Room)) (fun a U => a = #[(.ref a1), (.int 4)] ∧ Z.Warmed39 U.vm ∧ U.heap = h0) (fun _ _ _ _ _ => True) (fun _ U o U' => ∃ v L, o = .returned v ∧ QCp Z [(.int x0), (.int x1), (.int 0), (.int 0)] h0 n0 v U'.heap L ∧ FrameEnd U o U' L ({ frames := 1, cells := 1, slots := 4, locals := 40 } : Room).cells ({ frames := 1, cells := 1, slots := 4, locals := 40 } : Room).slots) := by
  refine own_enter pn_9 ?_
  intro p e s m below meth c s₁ QQ hQQ hx hby hml hown hnm hret hlk hZ X0 e0
  have hown : s.vm.findClass "java/util/Arrays" = some m.cls := hown
  have hml : c.maxLocals = 3 := hml
  have hret : meth.sig.returnType = some (.array .int) := hret
  have N0 := Fr.nil n0
  have K0 := Keep.refl h0 []
  refine Goes.cast (ef_rmCp2 m a1 (4 : Int32)) ?_
  show Goes p e below QQ (s₁.setTop (mkF m 0 #[rv a1, iv 4, .unset] []))
  refine G1 (XS.iloadN X0.here hx rfl (hb hby d9_0) rfl) ?_
  refine G1 (XS.aloadN X0.here hx rfl (hb hby d9_1) rfl rfl) ?_
  show Goes p e below QQ (s₁.setTop (mkF m 2 #[rv a1, iv 4, .unset] [(.ref a1), (.int 4)]))
  obtain ⟨cl1, Ar1, aq1, aS1, aN1, aH1, aG1⟩ := id V_a1
  refine Goes.on (fun t k => X0.arraylength hx (by rw [e0]; exact Ar1.1) (State.isArrayOf_alike hZ.alike Ar1.2.1) (g := (mkF m 2 #[rv a1, iv 4, .unset] [(.ref a1), (.int 4)])) rfl rfl (hb hby d9_2) t k) ?_
  rw [len_of aS1 aN1]
  show Goes p e below QQ (s₁.setTop (mkF m 3 #[rv a1, iv 4, .unset] [(.int 2), (.int 4)]))
  refine G1 (XS.icmpYes X0.here hx rfl (pc0 := 3) (pc' := 14) rfl (hb hby d9_3) rfl (feq (by decide)).2 (by decide) (by decide)) ?_
  show Gs p e below QQ s₁ m 14 #[rv a1, iv 4, .unset] []
  refine G1 (XS.iloadN X0.here hx rfl (hb hby d9_14) rfl) ?_
  show Goes p e below QQ (s₁.setTop (mkF m 15 #[rv a1, iv 4, .unset] [(.int 4)]))
  obtain ⟨T2, h2, k2, X2, e2, E2, A2, st2⟩ := newP X0 hx hZ (wI hw 20 rfl) e0 (g := (mkF m 15 #[rv a1, iv 4, .unset] [(.int 4)])) rfl (hb hby d9_15) rfl (by decide) (cap := 4) (by decide) (by decide) (by decide) (by decide)
  obtain ⟨b2, g2⟩ : ∃ z, z = h0.size := ⟨_, rfl⟩
  rw [← g2] at A2 st2
  have sz_b2 : h0.size ≤ b2 := Nat.le_trans K0.1 (Nat.le_of_eq g2.symm)
  have g_b2 : n0 ≤ b2 := Nat.le_trans Z0 sz_b2
  have ne_a1_b2 : a1 ≠ b2 := Nat.ne_of_lt (Nat.lt_of_lt_of_le V_a1.lt (Nat.le_of_eq g2.symm))
  have V_3 := V_a1.ext E2
  have K2 := K0.ext E2
  have X2 : Stand p l e ({ frames := 1, cells := 1, slots := 4, locals := 40 } : Room) s m #[(.ref a1), (.int 4)] below meth c T2 _ 1 4 := X2
  have V_4 : Arv Z h2 b2 k2 .int (4 : Int32) [(.int 0), (.int 0), (.int 0), (.int 0)] (.int 0) := (Arv.new A2 (by decide)).pad (pad_rep [] (.int 0) 4)
  refine Goes.on (fun t k => st2 t k) ?_
  show Goes p e below QQ (T2.setTop (mkF m 17 #[rv a1, iv 4, .unset] [(.ref b2)]))
  refine G1 (XS.astoreN X2.here hx rfl (hb hby d9_17) rfl rfl (l' := #[rv a1, iv 4, rv b2]) rfl) ?_
  refine G1 (XS.aloadN X2.here hx rfl (hb hby d9_18) rfl rfl) ?_
  refine G1 (XS.iconst X2.here hx rfl (hb hby d9_19)) ?_
  show Gs p e below QQ T2 m 20 #[rv a1, iv 4, rv b2] [(.int 0), (.ref a1)]
  refine G1 (XS.aloadN X2.here hx rfl (hb hby d9_20) rfl rfl) ?_
  refine G1 (XS.iconst X2.here hx rfl (hb hby d9_21)) ?_
  refine G1 (XS.aloadN X2.here hx rfl (hb hby d9_22) rfl rfl) ?_
  show Goes p e below QQ (T2.setTop (mkF m 23 #[rv a1, iv 4, rv b2] [(.ref a1), (.int 0), (.ref b2), (.int 0), (.ref a1)]))
  obtain ⟨cl5, Ar5, aq5, aS5, aN5, aH5, aG5⟩ := id V_3
  refine Goes.on (fun t k => X2.arraylength hx (by rw [e2]; exact Ar5.1) (State.isArrayOf_alike hZ.alike Ar5.2.1) (g := (mkF m 23 #[rv a1, iv 4, rv b2] [(.ref a1), (.int 0), (.ref b2), (.int 0), (.ref a1)])) rfl rfl (hb hby d9_23) t k) ?_
  rw [len_of aS5 aN5]
  show Goes p e below QQ (T2.setTop (mkF m 24 #[rv a1, iv 4, rv b2] [(.int 2), (.int 0), (.ref b2), (.int 0), (.ref a1)]))
  refine G1 (XS.iloadN X2.here hx rfl (hb hby d9_24) rfl) ?_
  show Goes p e below QQ (T2.setTop (mkF m 25 #[rv a1, iv 4, rv b2] [(.int 4), (.int 2), (.int 0), (.ref b2), (.int 0), (.ref a1)]))
  obtain ⟨_, _, ⟨T6, L6, k6, n6⟩, -, X6, ⟨Lc6, hQ6, l6, y6, z6⟩, st6⟩ := Jvm.LawKit.callS X2 hx (y := (⟨"java/lang/Math", "min", "(II)I"⟩ : MethodName)) hown (mvT hZ (wI hw 46 rfl)) (mvT hZ (wI hw 18 rfl)) (mvT hZ (wI hw 14 rfl)) (mvT hZ (wI hw 19 rfl)) (by decide) (backOf (W := 4) (rmMn l Z a0 hw [] (2 : Int32) (4 : Int32) h2 n0 (Nat.le_trans Z0 K2.1) ) hZ (wI hw 19 rfl) (wI hw 14 rfl) (by decide) (by decide)) (g := (mkF m 25 #[rv a1, iv 4, rv b2] [(.int 4), (.int 2), (.int 0), (.ref b2), (.int 0), (.ref a1)])) rfl (by rw [hml]; rfl) (argsL := [(.int 2), (.int 4)]) (rest := [(.int 0), (.ref b2), (.int 0), (.ref a1)]) (lenOf pd_0 rfl) rfl (by show 2 * 0 + _ ≤ _; exact Nat.le_of_eq rfl) (hb hby d9_25) (fun _ _ => ⟨rfl, e2, (by decide : 1 + 0 ≤ _), (by decide : 4 + 0 ≤ _)⟩)
  dsimp only [Pt.U, Pt.locs, Pt.cells, Pt.slots] at X6 l6 y6 z6 st6 hQ6
  have l6 := l6.symm; have y6 := y6.symm; have z6 := z6.symm; subst l6 y6 z6
  have X6 : Stand p l e ({ frames := 1, cells := 1, slots := 4, locals := 40 } : Room) s m #[(.ref a1), (.int 4)] below meth c T6 _ 1 4 := X6
  obtain ⟨rfl, M6, e6⟩ := hQ6
  have N6 := Fr.app N0 M6
  refine Goes.on (fun t k => st6 _ k) ?_
  show Goes p e below QQ (T6.setTop (mkF m 28 #[rv a1, iv 4, rv b2] [(.int (minF (2 : Int32) (4 : Int32))), (.int 0), (.ref b2), (.int 0), (.ref a1)]))
  rw [(by decide : minF (2 : Int32) (4 : Int32) = (2 : Int32))]
  show Goes p e below QQ (T6.setTop (mkF m 28 #[rv a1, iv 4, rv b2] [(.int 2), (.int 0), (.ref b2), (.int 0), (.ref a1)]))
  obtain ⟨T7, h7, L7, X7, e7, N7, Kc, Vc, st7⟩ := cpA X6 hx hZ hown (wI hw 47 rfl) (wI hw 50 rfl) (wI hw 48 rfl) (wI hw 49 rfl) e6 V_3 V_4 (Or.inl ⟨rfl, rfl⟩) (by decide) (by decide) (by decide) (by decide) (by decide) (us := [(.int x0), (.int x1)]) rfl (by decide) N6 g_b2 (g := (mkF m 28 #[rv a1, iv 4, rv b2] [(.int 2), (.int 0), (.ref b2), (.int 0), (.ref a1)])) rfl (by rw [hml]; rfl) rfl (hb hby d9_28) (by decide) (W := 0) (by show 2 * 0 + _ ≤ _; exact Nat.le_of_eq rfl) (by decide)
  have V_8 := V_3.keep Kc (ninS ne_a1_b2 nin0)
  have K10 := K2.trans Kc (allS (Or.inr sz_b2) all0)
  refine Goes.on (fun t k => st7 t k) ?_
  show Goes p e below QQ (T7.setTop (mkF m 31 #[rv a1, iv 4, rv b2] []))
  refine G1 (XS.aloadN X7.here hx rfl (hb hby d9_31) rfl rfl) ?_
  show Goes p e below QQ (T7.setTop (mkF m 32 #[rv a1, iv 4, rv b2] [(.ref b2)]))
  exact Goes.rA X7 hx hret rfl rfl hlk (hb hby d9_32) hQQ (by rw [e7]; exact ⟨b2, k2, rfl, N7, K10, sz_b2, Vc⟩) (by decide) (by decide)
theorem d13_0 : decode prog_150_method_5_code 0 = .ok (.aload_n 0, 1) := by decide +kernel
theorem d13_1 : decode prog_150_method_5_code 1 = .ok (.getfield 35, 3) := by decide +kernel
theorem d13_4 : decode prog_150_method_5_code 4 = .ok (.ifnonnull 7, 3) := by decide +kernel
theorem d13_7 : decode prog_150_method_5_code 7 = .ok (.iconst 0, 1) := by decide +kernel
theorem d13_8 : decode prog_150_method_5_code 8 = .ok (.goto 12, 3) := by decide +kernel
theorem d13_11 : decode prog_150_method_5_code 11 = .ok (.iload_n 1, 1) := by decide +kernel
theorem d13_12 : decode prog_150_method_5_code 12 = .ok (.ldc 38, 2) := by decide +kernel
theorem d13_14 : decode prog_150_method_5_code 14 = .ok (.imul, 1) := by decide +kernel
theorem d13_15 : decode prog_150_method_5_code 15 = .ok (.aload_n 0, 1) := by decide +kernel
theorem d13_16 : decode prog_150_method_5_code 16 = .ok (.getfield 39, 3) := by decide +kernel
theorem d13_19 : decode prog_150_method_5_code 19 = .ok (.iushr, 1) := by decide +kernel
theorem d13_20 : decode prog_150_method_5_code 20 = .ok (.ireturn, 1) := by decide +kernel
theorem pn_13 : plainFor (⟨"com/example/bindery/bindery/PartIndex", "start", "(I)I"⟩ : MethodName) = true := plainFor_of_name (show plainName "com/example/bindery/bindery/PartIndex" = true by first | (simp [plainName, overriddenIn]; done) | decide +kernel)
theorem ef_rmSt (m : MethodId) (x0 : Addr) (x1 : Int32) : entryFrame m #[(.ref x0), (.int x1)] 2 = mkF m 0 #[rv x0, iv x1] [] := by first | (simp [entryFrame, mkF, argsToLocals, Value.category]; done) | rfl
def stF (p1 : Int32) : Int32 := (((p1 * (-1640531527 : Int32)).toUInt32 >>> ((27 : Int32) &&& 31).toUInt32).toInt32)
set_option maxRecDepth 65536 in
set_option maxHeartbeats 40000000 in
theorem rmSt (l : Launch) (Z : State) (a0 : Array Value) (hw : ∀ d ∈ tables_1, d.before a0 Z = true) (ws : List Jvm.Cond) (a1 : Addr) (p1 : Int32) (d1 : Addr) (h0 : Heap) (n0 : Nat) (Z0 : n0 ≤ h0.size) (F_slots_a1 : Fld Z h0 a1 "com/example/bindery/bindery/PartIndex" "slots" "[I" (.ref d1)) (F_shift_a1 : Fld Z h0 a1 "com/example/bindery/bindery/PartIndex" "shift" "I" (.int 27)) :
    MetFree l (⟨"com/example/bindery/bindery/PartIndex", "start", "(I)I"⟩ : MethodName) (head1 (Jvm.Cond.code (⟨"com/example/bindery/bindery/PartIndex", "start", "(I)I"⟩ : MethodName) prog_150_method_5_code 2 (some .int) :: ws) ({ frames := 0, cells := 0, slots := 0, locals := 0 } : Room)) (fun a U => a = #[(.ref a1), (.int p1)] ∧ Z.Warmed39 U.vm ∧ U.heap = h0) (fun _ _ _ _ _ => True) (fun _ U o U' => ∃ v L, o = .returned v ∧ QP (.int (stF p1)) h0 n0 v U'.heap L ∧ FrameEnd U o U' L ({ frames := 0, cells := 0, slots := 0, locals := 0 } : Room).cells ({ frames := 0, cells := 0, slots := 0, locals := 0 } : Room).slots) := by
  refine own_enter pn_13 ?_
  intro p e s m below meth c s₁ QQ hQQ hx hby hml hown hnm hret hlk hZ X0 e0
  have hown : s.vm.findClass "com/example/bindery/bindery/PartIndex" = some m.cls := hown
  have hml : c.maxLocals = 2 := hml
  have hret : meth.sig.returnType = some .int := hret
  have N0 := Fr.nil n0
  have K0 := Keep.refl h0 []
  refine Goes.cast (ef_rmSt m a1 p1) ?_
  show Goes p e below QQ (s₁.setTop (mkF m 0 #[rv a1, iv p1] []))
  refine G1 (XS.aloadN X0.here hx rfl (hb hby d13_0) rfl rfl) ?_
  show Goes p e below QQ (s₁.setTop (mkF m 1 #[rv a1, iv p1] [(.ref a1)]))
  obtain ⟨T1, X1, e1, st1⟩ := getF X0 hx hZ hown (host := "") (Or.inl (wI hw 29 rfl)) Via.refl e0 F_slots_a1 (g := (mkF m 1 #[rv a1, iv p1] [(.ref a1)])) rfl rfl (hb hby d13_1)
  refine Goes.on (fun t k => st1 t k) ?_
  show Goes p e below QQ (T1.setTop (mkF m 4 #[rv a1, iv p1] [(.ref d1)]))
  refine G1 (XS.ifnonnullYes X1.here hx rfl (pc0 := 4) (pc' := 11) rfl (hb hby d13_4) rfl (by decide) (by decide)) ?_
  show Gs p e below QQ T1 m 11 #[rv a1, iv p1] []
  refine G1 (XS.iloadN X1.here hx rfl (hb hby d13_11) rfl) ?_
  show Goes p e below QQ (T1.setTop (mkF m 12 #[rv a1, iv p1] [(.int p1)]))
  refine Goes.on (fun t k => X1.ldcInt hx hown (mvT hZ (wI hw 71 rfl)) (g := (mkF m 12 #[rv a1, iv p1] [(.int p1)])) rfl (hb hby d13_12) t k) ?_
  show Goes p e below QQ (T1.setTop (mkF m 14 #[rv a1, iv p1] [(.int (-1640531527)), (.int p1)]))
  refine G1 (XS.imul X1.here hx rfl (hb hby d13_14) rfl) ?_
  show Gs p e below QQ T1 m 15 #[rv a1, iv p1] [(.int (p1 * (-1640531527 : Int32)))]
  refine G1 (XS.aloadN X1.here hx rfl (hb hby d13_15) rfl rfl) ?_
  show Goes p e below QQ (T1.setTop (mkF m 16 #[rv a1, iv p1] [(.ref a1), (.int (p1 * (-1640531527 : Int32)))]))
  obtain ⟨T2, X2, e2, st2⟩ := getF X1 hx hZ hown (host := "") (Or.inl (wI hw 60 rfl)) Via.refl e1 F_shift_a1 (g := (mkF m 16 #[rv a1, iv p1] [(.ref a1), (.int (p1 * (-1640531527 : Int32)))])) rfl rfl (hb hby d13_16)
  refine Goes.on (fun t k => st2 t k) ?_
  show Goes p e below QQ (T2.setTop (mkF m 19 #[rv a1, iv p1] [(.int 27), (.int (p1 * (-1640531527 : Int32)))]))
  refine G1 (XS.iushr X2.here hx rfl (hb hby d13_19) rfl) ?_
  show Goes p e below QQ (T2.setTop (mkF m 20 #[rv a1, iv p1] [(.int (((p1 * (-1640531527 : Int32)).toUInt32 >>> ((27 : Int32) &&& 31).toUInt32).toInt32))]))
  exact Goes.rI X2 hx hret hlk (hb hby d13_20) hQQ ⟨congrArg (fun z => some (Value.int z)) (rfl : (stF p1) = (((p1 * (-1640531527 : Int32)).toUInt32 >>> ((27 : Int32) &&& 31).toUInt32).toInt32)).symm, N0, e2⟩ (by decide) (by decide)
theorem d14_0 : decode prog_150_method_7_code 0 = .ok (.aload_n 0, 1) := by decide +kernel
theorem d14_1 : decode prog_150_method_7_code 1 = .ok (.getfield 35, 3) := by decide +kernel
theorem d14_4 : decode prog_150_method_7_code 4 = .ok (.ifnonnull 9, 3) := by decide +kernel
theorem d14_7 : decode prog_150_method_7_code 7 = .ok (.iload_n 1, 1) := by decide +kernel
theorem d14_8 : decode prog_150_method_7_code 8 = .ok (.iconst 1, 1) := by decide +kernel
theorem d14_9 : decode prog_150_method_7_code 9 = .ok (.iadd, 1) := by decide +kernel
theorem d14_10 : decode prog_150_method_7_code 10 = .ok (.goto 14, 3) := by decide +kernel
theorem d14_13 : decode prog_150_method_7_code 13 = .ok (.iload_n 1, 1) := by decide +kernel
theorem d14_14 : decode prog_150_method_7_code 14 = .ok (.iconst 1, 1) := by decide +kernel
theorem d14_15 : decode prog_150_method_7_code 15 = .ok (.iadd, 1) := by decide +kernel
theorem d14_16 : decode prog_150_method_7_code 16 = .ok (.aload_n 0, 1) := by decide +kernel
theorem d14_17 : decode prog_150_method_7_code 17 = .ok (.getfield 35, 3) := by decide +kernel
theorem d14_20 : decode prog_150_method_7_code 20 = .ok (.arraylength, 1) := by decide +kernel
theorem d14_21 : decode prog_150_method_7_code 21 = .ok (.iconst 1, 1) := by decide +kernel
theorem d14_22 : decode prog_150_method_7_code 22 = .ok (.isub, 1) := by decide +kernel
theorem d14_23 : decode prog_150_method_7_code 23 = .ok (.iand, 1) := by decide +kernel
theorem d14_24 : decode prog_150_method_7_code 24 = .ok (.ireturn, 1) := by decide +kernel
theorem pn_14 : plainFor (⟨"com/example/bindery/bindery/PartIndex", "after", "(I)I"⟩ : MethodName) = true := plainFor_of_name (show plainName "com/example/bindery/bindery/PartIndex" = true by first | (simp [plainName, overriddenIn]; done) | decide +kernel)
theorem ef_rmAf (m : MethodId) (x0 : Addr) (x1 : Int32) : entryFrame m #[(.ref x0), (.int x1)] 2 = mkF m 0 #[rv x0, iv x1] [] := by first | (simp [entryFrame, mkF, argsToLocals, Value.category]; done) | rfl
def afF (p1 : Int32) : Int32 := ((p1 + (1 : Int32)) &&& (31 : Int32))
set_option maxRecDepth 65536 in
set_option maxHeartbeats 40000000 in
theorem rmAf (l : Launch) (Z : State) (a0 : Array Value) (hw : ∀ d ∈ tables_1, d.before a0 Z = true) (ws : List Jvm.Cond) (a1 : Addr) (p1 : Int32) (d1 : Addr) (kd : ClassId) (S : List Value) (h0 : Heap) (n0 : Nat) (Z0 : n0 ≤ h0.size) (F_slots_a1 : Fld Z h0 a1 "com/example/bindery/bindery/PartIndex" "slots" "[I" (.ref d1)) (V_d1 : Arv Z h0 d1 kd .int (32 : Int32) S (.int 0)) :
    MetFree l (⟨"com/example/bindery/bindery/PartIndex", "after", "(I)I"⟩ : MethodName) (head1 (Jvm.Cond.code (⟨"com/example/bindery/bindery/PartIndex", "after", "(I)I"⟩ : MethodName) prog_150_method_7_code 2 (some .int) :: ws) ({ frames := 0, cells := 0, slots := 0, locals := 0 } : Room)) (fun a U => a = #[(.ref a1), (.int p1)] ∧ Z.Warmed39 U.vm ∧ U.heap = h0) (fun _ _ _ _ _ => True) (fun _ U o U' => ∃ v L, o = .returned v ∧ QP (.int (afF p1)) h0 n0 v U'.heap L ∧ FrameEnd U o U' L ({ frames := 0, cells := 0, slots := 0, locals := 0 } : Room).cells ({ frames := 0, cells := 0, slots := 0, locals := 0 } : Room).slots) := by
  refine own_enter pn_14 ?_
  intro p e s m below meth c s₁ QQ hQQ hx hby hml hown hnm hret hlk hZ X0 e0
  have hown : s.vm.findClass "com/example/bindery/bindery/PartIndex" = some m.cls := hown
  have hml : c.maxLocals = 2 := hml
  have hret : meth.sig.returnType = some .int := hret
  have N0 := Fr.nil n0
  have K0 := Keep.refl h0 []
  refine Goes.cast (ef_rmAf m a1 p1) ?_
  show Goes p e below QQ (s₁.setTop (mkF m 0 #[rv a1, iv p1] []))
  refine G1 (XS.aloadN X0.here hx rfl (hb hby d14_0) rfl rfl) ?_
  show Goes p e below QQ (s₁.setTop (mkF m 1 #[rv a1, iv p1] [(.ref a1)]))
  obtain ⟨T1, X1, e1, st1⟩ := getF X0 hx hZ hown (host := "") (Or.inl (wI hw 29 rfl)) Via.refl e0 F_slots_a1 (g := (mkF m 1 #[rv a1, iv p1] [(.ref a1)])) rfl rfl (hb hby d14_1)
  refine Goes.on (fun t k => st1 t k) ?_
  show Goes p e below QQ (T1.setTop (mkF m 4 #[rv a1, iv p1] [(.ref d1)]))
  refine G1 (XS.ifnonnullYes X1.here hx rfl (pc0 := 4) (pc' := 13) rfl (hb hby d14_4) rfl (by decide) (by decide)) ?_
  show Gs p e below QQ T1 m 13 #[rv a1, iv p1] []
  refine G1 (XS.iloadN X1.here hx rfl (hb hby d14_13) rfl) ?_
  refine G1 (XS.iconst X1.here hx rfl (hb hby d14_14)) ?_
  show Gs p e below QQ T1 m 15 #[rv a1, iv p1] [(.int 1), (.int p1)]
  refine G1 (XS.iadd X1.here hx rfl (hb hby d14_15) rfl) ?_
  show Gs p e below QQ T1 m 16 #[rv a1, iv p1] [(.int (p1 + (1 : Int32)))]
  refine G1 (XS.aloadN X1.here hx rfl (hb hby d14_16) rfl rfl) ?_
  show Goes p e below QQ (T1.setTop (mkF m 17 #[rv a1, iv p1] [(.ref a1), (.int (p1 + (1 : Int32)))]))
  obtain ⟨T2, X2, e2, st2⟩ := getF X1 hx hZ hown (host := "") (Or.inl (wI hw 29 rfl)) Via.refl e1 F_slots_a1 (g := (mkF m 17 #[rv a1, iv p1] [(.ref a1), (.int (p1 + (1 : Int32)))])) rfl rfl (hb hby d14_17)
  refine Goes.on (fun t k => st2 t k) ?_
  show Goes p e below QQ (T2.setTop (mkF m 20 #[rv a1, iv p1] [(.ref d1), (.int (p1 + (1 : Int32)))]))
  obtain ⟨cl3, Ar3, aq3, aS3, aN3, aH3, aG3⟩ := id V_d1
  refine Goes.on (fun t k => X2.arraylength hx (by rw [e2]; exact Ar3.1) (State.isArrayOf_alike hZ.alike Ar3.2.1) (g := (mkF m 20 #[rv a1, iv p1] [(.ref d1), (.int (p1 + (1 : Int32)))])) rfl rfl (hb hby d14_20) t k) ?_
  rw [len_of aS3 aN3]
  show Goes p e below QQ (T2.setTop (mkF m 21 #[rv a1, iv p1] [(.int 32), (.int (p1 + (1 : Int32)))]))
  refine G1 (XS.iconst X2.here hx rfl (hb hby d14_21)) ?_
  show Gs p e below QQ T2 m 22 #[rv a1, iv p1] [(.int 1), (.int 32), (.int (p1 + (1 : Int32)))]
  refine G1 (XS.isub X2.here hx rfl (hb hby d14_22) rfl) ?_
  show Goes p e below QQ (T2.setTop (mkF m 23 #[rv a1, iv p1] [(.int ((32 : Int32) - (1 : Int32))), (.int (p1 + (1 : Int32)))]))
  rw [(by decide : ((32 : Int32) - (1 : Int32)) = (31 : Int32))]
  show Goes p e below QQ (T2.setTop (mkF m 23 #[rv a1, iv p1] [(.int 31), (.int (p1 + (1 : Int32)))]))
  refine G1 (XS.iand X2.here hx rfl (hb hby d14_23) rfl) ?_
  show Goes p e below QQ (T2.setTop (mkF m 24 #[rv a1, iv p1] [(.int ((p1 + (1 : Int32)) &&& (31 : Int32)))]))
  exact Goes.rI X2 hx hret hlk (hb hby d14_24) hQQ ⟨congrArg (fun z => some (Value.int z)) (rfl : (afF p1) = ((p1 + (1 : Int32)) &&& (31 : Int32))).symm, N0, e2⟩ (by decide) (by decide)
theorem d6_0 : decode prog_150_method_6_code 0 = .ok (.aload_n 0, 1) := by decide +kernel
theorem d6_1 : decode prog_150_method_6_code 1 = .ok (.getfield 35, 3) := by decide +kernel
theorem d6_4 : decode prog_150_method_6_code 4 = .ok (.ifnonnull 17, 3) := by decide +kernel
theorem d6_7 : decode prog_150_method_6_code 7 = .ok (.iload_n 1, 1) := by decide +kernel
theorem d6_8 : decode prog_150_method_6_code 8 = .ok (.aload_n 0, 1) := by decide +kernel
theorem d6_9 : decode prog_150_method_6_code 9 = .ok (.getfield 31, 3) := by decide +kernel
theorem d6_12 : decode prog_150_method_6_code 12 = .ok (.if_icmp .ge 7, 3) := by decide +kernel
theorem d6_15 : decode prog_150_method_6_code 15 = .ok (.iload_n 1, 1) := by decide +kernel
theorem d6_16 : decode prog_150_method_6_code 16 = .ok (.goto 4, 3) := by decide +kernel
theorem d6_19 : decode prog_150_method_6_code 19 = .ok (.iconst (-1), 1) := by decide +kernel
theorem d6_20 : decode prog_150_method_6_code 20 = .ok (.ireturn, 1) := by decide +kernel
theorem d6_21 : decode prog_150_method_6_code 21 = .ok (.aload_n 0, 1) := by decide +kernel
theorem d6_22 : decode prog_150_method_6_code 22 = .ok (.getfield 35, 3) := by decide +kernel
theorem d6_25 : decode prog_150_method_6_code 25 = .ok (.iload_n 1, 1) := by decide +kernel
theorem d6_26 : decode prog_150_method_6_code 26 = .ok (.iaload, 1) := by decide +kernel
theorem d6_27 : decode prog_150_method_6_code 27 = .ok (.iconst 1, 1) := by decide +kernel
theorem d6_28 : decode prog_150_method_6_code 28 = .ok (.isub, 1) := by decide +kernel
theorem d6_29 : decode prog_150_method_6_code 29 = .ok (.ireturn, 1) := by decide +kernel
theorem pn_6 : plainFor (⟨"com/example/bindery/bindery/PartIndex", "entryAt", "(I)I"⟩ : MethodName) = true := plainFor_of_name (show plainName "com/example/bindery/bindery/PartIndex" = true by first | (simp [plainName, overriddenIn]; done) | decide +kernel)
theorem ef_rmE0 (m : MethodId) (x0 : Addr) (x1 : Int32) : entryFrame m #[(.ref x0), (.int x1)] 2 = mkF m 0 #[rv x0, iv x1] [] := by first | (simp [entryFrame, mkF, argsToLocals, Value.category]; done) | rfl
def entF (p1 : Int32) (sz : Int32) : Int32 := (if p1 < sz then p1 else (-1 : Int32))
set_option maxRecDepth 65536 in
set_option maxHeartbeats 40000000 in
theorem rmE0 (l : Launch) (Z : State) (a0 : Array Value) (hw : ∀ d ∈ tables_1, d.before a0 Z = true) (ws : List Jvm.Cond) (a1 : Addr) (p1 : Int32) (sz : Int32) (h0 : Heap) (n0 : Nat) (Z0 : n0 ≤ h0.size) (F_slots_a1 : Fld Z h0 a1 "com/example/bindery/bindery/PartIndex" "slots" "[I" .null) (F_size_a1 : Fld Z h0 a1 "com/example/bindery/bindery/PartIndex" "size" "I" (.int sz)) :
    MetFree l (⟨"com/example/bindery/bindery/PartIndex", "entryAt", "(I)I"⟩ : MethodName) (head1 (Jvm.Cond.code (⟨"com/example/bindery/bindery/PartIndex", "entryAt", "(I)I"⟩ : MethodName) prog_150_method_6_code 2 (some .int) :: ws) ({ frames := 0, cells := 0, slots := 0, locals := 0 } : Room)) (fun a U => a = #[(.ref a1), (.int p1)] ∧ Z.Warmed39 U.vm ∧ U.heap = h0) (fun _ _ _ _ _ => True) (fun _ U o U' => ∃ v L, o = .returned v ∧ QP (.int (entF p1 sz)) h0 n0 v U'.heap L ∧ FrameEnd U o U' L ({ frames := 0, cells := 0, slots := 0, locals := 0 } : Room).cells ({ frames := 0, cells := 0, slots := 0, locals := 0 } : Room).slots) := by
  refine own_enter pn_6 ?_
  intro p e s m below meth c s₁ QQ hQQ hx hby hml hown hnm hret hlk hZ X0 e0
  have hown : s.vm.findClass "com/example/bindery/bindery/PartIndex" = some m.cls := hown
  have hml : c.maxLocals = 2 := hml
  have hret : meth.sig.returnType = some .int := hret
  have N0 := Fr.nil n0
  have K0 := Keep.refl h0 []
  refine Goes.cast (ef_rmE0 m a1 p1) ?_
  show Goes p e below QQ (s₁.setTop (mkF m 0 #[rv a1, iv p1] []))
  refine G1 (XS.aloadN X0.here hx rfl (hb hby d6_0) rfl rfl) ?_
  show Goes p e below QQ (s₁.setTop (mkF m 1 #[rv a1, iv p1] [(.ref a1)]))
  obtain ⟨T1, X1, e1, st1⟩ := getF X0 hx hZ hown (host := "") (Or.inl (wI hw 29 rfl)) Via.refl e0 F_slots_a1 (g := (mkF m 1 #[rv a1, iv p1] [(.ref a1)])) rfl rfl (hb hby d6_1)
  refine Goes.on (fun t k => st1 t k) ?_
  show Goes p e below QQ (T1.setTop (mkF m 4 #[rv a1, iv p1] [.null]))
  refine G1 (XS.ifnonnullNo X1.here hx rfl (hb hby d6_4) rfl) ?_
  show Gs p e below QQ T1 m 7 #[rv a1, iv p1] []
  refine G1 (XS.iloadN X1.here hx rfl (hb hby d6_7) rfl) ?_
  refine G1 (XS.aloadN X1.here hx rfl (hb hby d6_8) rfl rfl) ?_
  show Goes p e below QQ (T1.setTop (mkF m 9 #[rv a1, iv p1] [(.ref a1), (.int p1)]))
  obtain ⟨T2, X2, e2, st2⟩ := getF X1 hx hZ hown (host := "") (Or.inl (wI hw 31 rfl)) Via.refl e1 F_size_a1 (g := (mkF m 9 #[rv a1, iv p1] [(.ref a1), (.int p1)])) rfl rfl (hb hby d6_9)
  refine Goes.on (fun t k => st2 t k) ?_
  show Goes p e below QQ (T2.setTop (mkF m 12 #[rv a1, iv p1] [(.int sz), (.int p1)]))
  by_cases hb3 : p1 < sz
  · refine G1 (XS.icmpNo X2.here hx rfl (hb hby d6_12) rfl (tlt hb3).2.1) ?_
    show Gs p e below QQ T2 m 15 #[rv a1, iv p1] []
    refine G1 (XS.iloadN X2.here hx rfl (hb hby d6_15) rfl) ?_
    refine G1 (XS.goto X2.here hx rfl (pc0 := 16) (pc' := 20) rfl (hb hby d6_16) (by decide) (by decide)) ?_
    show Goes p e below QQ (T2.setTop (mkF m 20 #[rv a1, iv p1] [(.int p1)]))
    exact Goes.rI X2 hx hret hlk (hb hby d6_20) hQQ ⟨congrArg (fun z => some (Value.int z)) (((if_pos hb3).trans rfl) : (entF p1 sz) = p1).symm, N0, e2⟩ (by decide) (by decide)
  · refine G1 (XS.icmpYes X2.here hx rfl (pc0 := 12) (pc' := 19) rfl (hb hby d6_12) rfl (flt hb3).2.1 (by decide) (by decide)) ?_
    show Gs p e below QQ T2 m 19 #[rv a1, iv p1] []
    refine G1 (XS.iconst X2.here hx rfl (hb hby d6_19)) ?_
    show Goes p e below QQ (T2.setTop (mkF m 20 #[rv a1, iv p1] [(.int (-1))]))
    exact Goes.rI X2 hx hret hlk (hb hby d6_20) hQQ ⟨congrArg (fun z => some (Value.int z)) (((if_neg hb3).trans rfl) : (entF p1 sz) = (-1 : Int32)).symm, N0, e2⟩ (by decide) (by decide)
theorem ef_rmE1 (m : MethodId) (x0 : Addr) (x1 : Int32) : entryFrame m #[(.ref x0), (.int x1)] 2 = mkF m 0 #[rv x0, iv x1] [] := by first | (simp [entryFrame, mkF, argsToLocals, Value.category]; done) | rfl
def entS (xx : Int32) : Int32 := (xx - (1 : Int32))
set_option maxRecDepth 65536 in
set_option maxHeartbeats 40000000 in
theorem rmE1 (l : Launch) (Z : State) (a0 : Array Value) (hw : ∀ d ∈ tables_1, d.before a0 Z = true) (ws : List Jvm.Cond) (a1 : Addr) (p1 : Int32) (d1 : Addr) (kd : ClassId) (S : List Value) (xx : Int32) (h0 : Heap) (n0 : Nat) (Z0 : n0 ≤ h0.size) (F_slots_a1 : Fld Z h0 a1 "com/example/bindery/bindery/PartIndex" "slots" "[I" (.ref d1)) (V_d1 : Arv Z h0 d1 kd .int (32 : Int32) S (.int 0)) (I0 : ¬ p1 < 0 ∧ p1 < (32 : Int32)) (G0 : S.getD p1.toNatClampNeg (.int (0 : Int32)) = .int xx) :
    MetFree l (⟨"com/example/bindery/bindery/PartIndex", "entryAt", "(I)I"⟩ : MethodName) (head1 (Jvm.Cond.code (⟨"com/example/bindery/bindery/PartIndex", "entryAt", "(I)I"⟩ : MethodName) prog_150_method_6_code 2 (some .int) :: ws) ({ frames := 0, cells := 0, slots := 0, locals := 0 } : Room)) (fun a U => a = #[(.ref a1), (.int p1)] ∧ Z.Warmed39 U.vm ∧ U.heap = h0) (fun _ _ _ _ _ => True) (fun _ U o U' => ∃ v L, o = .returned v ∧ QP (.int (entS xx)) h0 n0 v U'.heap L ∧ FrameEnd U o U' L ({ frames := 0, cells := 0, slots := 0, locals := 0 } : Room).cells ({ frames := 0, cells := 0, slots := 0, locals := 0 } : Room).slots) := by
  refine own_enter pn_6 ?_
  intro p e s m below meth c s₁ QQ hQQ hx hby hml hown hnm hret hlk hZ X0 e0
  have hown : s.vm.findClass "com/example/bindery/bindery/PartIndex" = some m.cls := hown
  have hml : c.maxLocals = 2 := hml
  have hret : meth.sig.returnType = some .int := hret
  have N0 := Fr.nil n0
  have K0 := Keep.refl h0 []
  refine Goes.cast (ef_rmE1 m a1 p1) ?_
  show Goes p e below QQ (s₁.setTop (mkF m 0 #[rv a1, iv p1] []))
  refine G1 (XS.aloadN X0.here hx rfl (hb hby d6_0) rfl rfl) ?_
  show Goes p e below QQ (s₁.setTop (mkF m 1 #[rv a1, iv p1] [(.ref a1)]))
  obtain ⟨T1, X1, e1, st1⟩ := getF X0 hx hZ hown (host := "") (Or.inl (wI hw 29 rfl)) Via.refl e0 F_slots_a1 (g := (mkF m 1 #[rv a1, iv p1] [(.ref a1)])) rfl rfl (hb hby d6_1)
  refine Goes.on (fun t k => st1 t k) ?_
  show Goes p e below QQ (T1.setTop (mkF m 4 #[rv a1, iv p1] [(.ref d1)]))
  refine G1 (XS.ifnonnullYes X1.here hx rfl (pc0 := 4) (pc' := 21) rfl (hb hby d6_4) rfl (by decide) (by decide)) ?_
  show Gs p e below QQ T1 m 21 #[rv a1, iv p1] []
  refine G1 (XS.aloadN X1.here hx rfl (hb hby d6_21) rfl rfl) ?_
  show Goes p e below QQ (T1.setTop (mkF m 22 #[rv a1, iv p1] [(.ref a1)]))
  obtain ⟨T2, X2, e2, st2⟩ := getF X1 hx hZ hown (host := "") (Or.inl (wI hw 29 rfl)) Via.refl e1 F_slots_a1 (g := (mkF m 22 #[rv a1, iv p1] [(.ref a1)])) rfl rfl (hb hby d6_22)
  refine Goes.on (fun t k => st2 t k) ?_
  show Goes p e below QQ (T2.setTop (mkF m 25 #[rv a1, iv p1] [(.ref d1)]))
  refine G1 (XS.iloadN X2.here hx rfl (hb hby d6_25) rfl) ?_
  show Goes p e below QQ (T2.setTop (mkF m 26 #[rv a1, iv p1] [(.int p1), (.ref d1)]))
  obtain ⟨cl3, Ar3, aq3, aS3, aN3, aH3, aG3⟩ := id V_d1
  have hin3 := inb_of (j := p1) aS3 I0
  have hat3 := Has.at (v := (.int xx)) aH3 hin3 G0
  refine Goes.on (fun t k => X2.iaload hx (j := p1) (v := (.int xx)) (by rw [e2]; exact Ar3.1) (State.isArrayOf_alike hZ.alike Ar3.2.1) Ar3.2.2 hin3 hat3 (g := (mkF m 26 #[rv a1, iv p1] [(.int p1), (.ref d1)])) rfl rfl (hb hby d6_26) t k) ?_
  show Goes p e below QQ (T2.setTop (mkF m 27 #[rv a1, iv p1] [(.int xx)]))
  refine G1 (XS.iconst X2.here hx rfl (hb hby d6_27)) ?_
  show Gs p e below QQ T2 m 28 #[rv a1, iv p1] [(.int 1), (.int xx)]
  refine G1 (XS.isub X2.here hx rfl (hb hby d6_28) rfl) ?_
  show Goes p e below QQ (T2.setTop (mkF m 29 #[rv a1, iv p1] [(.int (xx - (1 : Int32)))]))
  exact Goes.rI X2 hx hret hlk (hb hby d6_29) hQQ ⟨congrArg (fun z => some (Value.int z)) (rfl : (entS xx) = (xx - (1 : Int32))).symm, N0, e2⟩ (by decide) (by decide)
theorem d7_0 : decode method_2_code 0 = .ok (.iload_n 0, 1) := by decide +kernel
theorem d7_1 : decode method_2_code 1 = .ok (.iload_n 1, 1) := by decide +kernel
theorem d7_2 : decode method_2_code 2 = .ok (.if_icmp .ge 7, 3) := by decide +kernel
theorem d7_5 : decode method_2_code 5 = .ok (.iload_n 0, 1) := by decide +kernel
theorem d7_6 : decode method_2_code 6 = .ok (.goto 4, 3) := by decide +kernel
theorem d7_9 : decode method_2_code 9 = .ok (.iconst (-1), 1) := by decide +kernel
theorem d7_10 : decode method_2_code 10 = .ok (.ireturn, 1) := by decide +kernel
theorem pn_7 : plainFor (⟨"com/example/bindery/bindery/PartIndexEntryAtPinLaw", "few", "(II)I"⟩ : MethodName) = true := plainFor_of_name (show plainName "com/example/bindery/bindery/PartIndexEntryAtPinLaw" = true by first | (simp [plainName, overriddenIn]; done) | decide +kernel)
theorem ef_rmFe (m : MethodId) (x0 : Int32) (x1 : Int32) : entryFrame m #[(.int x0), (.int x1)] 2 = mkF m 0 #[iv x0, iv x1] [] := by first | (simp [entryFrame, mkF, argsToLocals, Value.category]; done) | rfl
def fewF (p1 : Int32) (p2 : Int32) : Int32 := (if p1 < p2 then p1 else (-1 : Int32))
set_option maxRecDepth 65536 in
set_option maxHeartbeats 40000000 in
theorem rmFe (l : Launch) (Z : State) (a0 : Array Value) (hw : ∀ d ∈ tables_1, d.before a0 Z = true) (ws : List Jvm.Cond) (p1 : Int32) (p2 : Int32)  (h0 : Heap) (n0 : Nat) (Z0 : n0 ≤ h0.size)  :
    MetFree l (⟨"com/example/bindery/bindery/PartIndexEntryAtPinLaw", "few", "(II)I"⟩ : MethodName) (head1 (Jvm.Cond.code (⟨"com/example/bindery/bindery/PartIndexEntryAtPinLaw", "few", "(II)I"⟩ : MethodName) method_2_code 2 (some .int) :: ws) ({ frames := 0, cells := 0, slots := 0, locals := 0 } : Room)) (fun a U => a = #[(.int p1), (.int p2)] ∧ Z.Warmed39 U.vm ∧ U.heap = h0) (fun _ _ _ _ _ => True) (fun _ U o U' => ∃ v L, o = .returned v ∧ QP (.int (fewF p1 p2)) h0 n0 v U'.heap L ∧ FrameEnd U o U' L ({ frames := 0, cells := 0, slots := 0, locals := 0 } : Room).cells ({ frames := 0, cells := 0, slots := 0, locals := 0 } : Room).slots) := by
  refine own_enter pn_7 ?_
  intro p e s m below meth c s₁ QQ hQQ hx hby hml hown hnm hret hlk hZ X0 e0
  have hown : s.vm.findClass "com/example/bindery/bindery/PartIndexEntryAtPinLaw" = some m.cls := hown
  have hml : c.maxLocals = 2 := hml
  have hret : meth.sig.returnType = some .int := hret
  have N0 := Fr.nil n0
  have K0 := Keep.refl h0 []
  refine Goes.cast (ef_rmFe m p1 p2) ?_
  show Goes p e below QQ (s₁.setTop (mkF m 0 #[iv p1, iv p2] []))
  refine G1 (XS.iloadN X0.here hx rfl (hb hby d7_0) rfl) ?_
  refine G1 (XS.iloadN X0.here hx rfl (hb hby d7_1) rfl) ?_
  show Goes p e below QQ (s₁.setTop (mkF m 2 #[iv p1, iv p2] [(.int p2), (.int p1)]))
  by_cases hb1 : p1 < p2
  · refine G1 (XS.icmpNo X0.here hx rfl (hb hby d7_2) rfl (tlt hb1).2.1) ?_
    show Gs p e below QQ s₁ m 5 #[iv p1, iv p2] []
    refine G1 (XS.iloadN X0.here hx rfl (hb hby d7_5) rfl) ?_
    refine G1 (XS.goto X0.here hx rfl (pc0 := 6) (pc' := 10) rfl (hb hby d7_6) (by decide) (by decide)) ?_
    show Goes p e below QQ (s₁.setTop (mkF m 10 #[iv p1, iv p2] [(.int p1)]))
    exact Goes.rI X0 hx hret hlk (hb hby d7_10) hQQ ⟨congrArg (fun z => some (Value.int z)) (((if_pos hb1).trans rfl) : (fewF p1 p2) = p1).symm, N0, e0⟩ (by decide) (by decide)
  · refine G1 (XS.icmpYes X0.here hx rfl (pc0 := 2) (pc' := 9) rfl (hb hby d7_2) rfl (flt hb1).2.1 (by decide) (by decide)) ?_
    show Gs p e below QQ s₁ m 9 #[iv p1, iv p2] []
    refine G1 (XS.iconst X0.here hx rfl (hb hby d7_9)) ?_
    show Goes p e below QQ (s₁.setTop (mkF m 10 #[iv p1, iv p2] [(.int (-1))]))
    exact Goes.rI X0 hx hret hlk (hb hby d7_10) hQQ ⟨congrArg (fun z => some (Value.int z)) (((if_neg hb1).trans rfl) : (fewF p1 p2) = (-1 : Int32)).symm, N0, e0⟩ (by decide) (by decide)
theorem d15_0 : decode method_3_code 0 = .ok (.iload_n 1, 1) := by decide +kernel
theorem d15_1 : decode method_3_code 1 = .ok (.iconst 1, 1) := by decide +kernel
theorem d15_2 : decode method_3_code 2 = .ok (.if_icmp .lt 10, 3) := by decide +kernel
theorem d15_5 : decode method_3_code 5 = .ok (.iload_n 0, 1) := by decide +kernel
theorem d15_6 : decode method_3_code 6 = .ok (.iload_n 2, 1) := by decide +kernel
theorem d15_7 : decode method_3_code 7 = .ok (.if_icmp .ne 5, 3) := by decide +kernel
theorem d15_10 : decode method_3_code 10 = .ok (.iconst 0, 1) := by decide +kernel
theorem d15_11 : decode method_3_code 11 = .ok (.ireturn, 1) := by decide +kernel
theorem d15_12 : decode method_3_code 12 = .ok (.iload_n 1, 1) := by decide +kernel
theorem d15_13 : decode method_3_code 13 = .ok (.iconst 2, 1) := by decide +kernel
theorem d15_14 : decode method_3_code 14 = .ok (.if_icmp .lt 10, 3) := by decide +kernel
theorem d15_17 : decode method_3_code 17 = .ok (.iload_n 0, 1) := by decide +kernel
theorem d15_18 : decode method_3_code 18 = .ok (.iload_n 3, 1) := by decide +kernel
theorem d15_19 : decode method_3_code 19 = .ok (.if_icmp .ne 5, 3) := by decide +kernel
theorem d15_22 : decode method_3_code 22 = .ok (.iconst 1, 1) := by decide +kernel
theorem d15_23 : decode method_3_code 23 = .ok (.ireturn, 1) := by decide +kernel
theorem d15_24 : decode method_3_code 24 = .ok (.iload_n 1, 1) := by decide +kernel
theorem d15_25 : decode method_3_code 25 = .ok (.iconst 3, 1) := by decide +kernel
theorem d15_26 : decode method_3_code 26 = .ok (.if_icmp .lt 11, 3) := by decide +kernel
theorem d15_29 : decode method_3_code 29 = .ok (.iload_n 0, 1) := by decide +kernel
theorem d15_30 : decode method_3_code 30 = .ok (.iload 4, 2) := by decide +kernel
theorem d15_32 : decode method_3_code 32 = .ok (.if_icmp .ne 5, 3) := by decide +kernel
theorem d15_35 : decode method_3_code 35 = .ok (.iconst 2, 1) := by decide +kernel
theorem d15_36 : decode method_3_code 36 = .ok (.ireturn, 1) := by decide +kernel
theorem d15_37 : decode method_3_code 37 = .ok (.iconst (-1), 1) := by decide +kernel
theorem d15_38 : decode method_3_code 38 = .ok (.ireturn, 1) := by decide +kernel
theorem pn_15 : plainFor (⟨"com/example/bindery/bindery/PartIndexEntryAtPinLaw", "slot", "(IIIII)I"⟩ : MethodName) = true := plainFor_of_name (show plainName "com/example/bindery/bindery/PartIndexEntryAtPinLaw" = true by first | (simp [plainName, overriddenIn]; done) | decide +kernel)
theorem ef_rmSl (m : MethodId) (x0 : Int32) (x1 : Int32) (x2 : Int32) (x3 : Int32) (x4 : Int32) : entryFrame m #[(.int x0), (.int x1), (.int x2), (.int x3), (.int x4)] 5 = mkF m 0 #[iv x0, iv x1, iv x2, iv x3, iv x4] [] := by first | (simp [entryFrame, mkF, argsToLocals, Value.category]; done) | rfl
def slotF (p1 : Int32) (p2 : Int32) (p3 : Int32) (p4 : Int32) (p5 : Int32) : Int32 := (if p2 < (1 : Int32) then (if p2 < (2 : Int32) then (if p2 < (3 : Int32) then (-1 : Int32) else (if p1 = p5 then (2 : Int32) else (-1 : Int32))) else (if p1 = p4 then (1 : Int32) else (if p2 < (3 : Int32) then (-1 : Int32) else (if p1 = p5 then (2 : Int32) else (-1 : Int32))))) else (if p1 = p3 then (0 : Int32) else (if p2 < (2 : Int32) then (if p2 < (3 : Int32) then (-1 : Int32) else (if p1 = p5 then (2 : Int32) else (-1 : Int32))) else (if p1 = p4 then (1 : Int32) else (if p2 < (3 : Int32) then (-1 : Int32) else (if p1 = p5 then (2 : Int32) else (-1 : Int32)))))))
set_option maxRecDepth 65536 in
set_option maxHeartbeats 40000000 in
theorem rmSl (l : Launch) (Z : State) (a0 : Array Value) (hw : ∀ d ∈ tables_1, d.before a0 Z = true) (ws : List Jvm.Cond) (p1 : Int32) (p2 : Int32) (p3 : Int32) (p4 : Int32) (p5 : Int32)  (h0 : Heap) (n0 : Nat) (Z0 : n0 ≤ h0.size)  :
    MetFree l (⟨"com/example/bindery/bindery/PartIndexEntryAtPinLaw", "slot", "(IIIII)I"⟩ : MethodName) (head1 (Jvm.Cond.code (⟨"com/example/bindery/bindery/PartIndexEntryAtPinLaw", "slot", "(IIIII)I"⟩ : MethodName) method_3_code 5 (some .int) :: ws) ({ frames := 0, cells := 0, slots := 0, locals := 0 } : Room)) (fun a U => a = #[(.int p1), (.int p2), (.int p3), (.int p4), (.int p5)] ∧ Z.Warmed39 U.vm ∧ U.heap = h0) (fun _ _ _ _ _ => True) (fun _ U o U' => ∃ v L, o = .returned v ∧ QP (.int (slotF p1 p2 p3 p4 p5)) h0 n0 v U'.heap L ∧ FrameEnd U o U' L ({ frames := 0, cells := 0, slots := 0, locals := 0 } : Room).cells ({ frames := 0, cells := 0, slots := 0, locals := 0 } : Room).slots) := by
  refine own_enter pn_15 ?_
  intro p e s m below meth c s₁ QQ hQQ hx hby hml hown hnm hret hlk hZ X0 e0
  have hown : s.vm.findClass "com/example/bindery/bindery/PartIndexEntryAtPinLaw" = some m.cls := hown
  have hml : c.maxLocals = 5 := hml
  have hret : meth.sig.returnType = some .int := hret
  have N0 := Fr.nil n0
  have K0 := Keep.refl h0 []
  refine Goes.cast (ef_rmSl m p1 p2 p3 p4 p5) ?_
  show Goes p e below QQ (s₁.setTop (mkF m 0 #[iv p1, iv p2, iv p3, iv p4, iv p5] []))
  refine G1 (XS.iloadN X0.here hx rfl (hb hby d15_0) rfl) ?_
  refine G1 (XS.iconst X0.here hx rfl (hb hby d15_1)) ?_
  show Goes p e below QQ (s₁.setTop (mkF m 2 #[iv p1, iv p2, iv p3, iv p4, iv p5] [(.int 1), (.int p2)]))
  by_cases hb1 : p2 < (1 : Int32)
  · refine G1 (XS.icmpYes X0.here hx rfl (pc0 := 2) (pc' := 12) rfl (hb hby d15_2) rfl (tlt hb1).1 (by decide) (by decide)) ?_
    show Gs p e below QQ s₁ m 12 #[iv p1, iv p2, iv p3, iv p4, iv p5] []
    refine G1 (XS.iloadN X0.here hx rfl (hb hby d15_12) rfl) ?_
    refine G1 (XS.iconst X0.here hx rfl (hb hby d15_13)) ?_
    show Goes p e below QQ (s₁.setTop (mkF m 14 #[iv p1, iv p2, iv p3, iv p4, iv p5] [(.int 2), (.int p2)]))
    by_cases hb2 : p2 < (2 : Int32)
    · refine G1 (XS.icmpYes X0.here hx rfl (pc0 := 14) (pc' := 24) rfl (hb hby d15_14) rfl (tlt hb2).1 (by decide) (by decide)) ?_
      show Gs p e below QQ s₁ m 24 #[iv p1, iv p2, iv p3, iv p4, iv p5] []
      refine G1 (XS.iloadN X0.here hx rfl (hb hby d15_24) rfl) ?_
      refine G1 (XS.iconst X0.here hx rfl (hb hby d15_25)) ?_
      show Goes p e below QQ (s₁.setTop (mkF m 26 #[iv p1, iv p2, iv p3, iv p4, iv p5] [(.int 3), (.int p2)]))
      by_cases hb3 : p2 < (3 : Int32)
      · refine G1 (XS.icmpYes X0.here hx rfl (pc0 := 26) (pc' := 37) rfl (hb hby d15_26) rfl (tlt hb3).1 (by decide) (by decide)) ?_
        show Gs p e below QQ s₁ m 37 #[iv p1, iv p2, iv p3, iv p4, iv p5] []
        refine G1 (XS.iconst X0.here hx rfl (hb hby d15_37)) ?_
        show Goes p e below QQ (s₁.setTop (mkF m 38 #[iv p1, iv p2, iv p3, iv p4, iv p5] [(.int (-1))]))
        exact Goes.rI X0 hx hret hlk (hb hby d15_38) hQQ ⟨congrArg (fun z => some (Value.int z)) (((if_pos hb1).trans ((if_pos hb2).trans ((if_pos hb3).trans rfl))) : (slotF p1 p2 p3 p4 p5) = (-1 : Int32)).symm, N0, e0⟩ (by decide) (by decide)
      · refine G1 (XS.icmpNo X0.here hx rfl (hb hby d15_26) rfl (flt hb3).1) ?_
        show Gs p e below QQ s₁ m 29 #[iv p1, iv p2, iv p3, iv p4, iv p5] []
        refine G1 (XS.iloadN X0.here hx rfl (hb hby d15_29) rfl) ?_
        refine G1 (XS.iload X0.here hx rfl (hb hby d15_30) rfl) ?_
        show Goes p e below QQ (s₁.setTop (mkF m 32 #[iv p1, iv p2, iv p3, iv p4, iv p5] [(.int p5), (.int p1)]))
        by_cases hb4 : p1 = p5
        · refine G1 (XS.icmpNo X0.here hx rfl (hb hby d15_32) rfl (teq hb4).2) ?_
          show Gs p e below QQ s₁ m 35 #[iv p1, iv p2, iv p3, iv p4, iv p5] []
          refine G1 (XS.iconst X0.here hx rfl (hb hby d15_35)) ?_
          show Goes p e below QQ (s₁.setTop (mkF m 36 #[iv p1, iv p2, iv p3, iv p4, iv p5] [(.int 2)]))
          exact Goes.rI X0 hx hret hlk (hb hby d15_36) hQQ ⟨congrArg (fun z => some (Value.int z)) (((if_pos hb1).trans ((if_pos hb2).trans ((if_neg hb3).trans ((if_pos hb4).trans rfl)))) : (slotF p1 p2 p3 p4 p5) = (2 : Int32)).symm, N0, e0⟩ (by decide) (by decide)
        · refine G1 (XS.icmpYes X0.here hx rfl (pc0 := 32) (pc' := 37) rfl (hb hby d15_32) rfl (feq hb4).2 (by decide) (by decide)) ?_
          show Gs p e below QQ s₁ m 37 #[iv p1, iv p2, iv p3, iv p4, iv p5] []
          refine G1 (XS.iconst X0.here hx rfl (hb hby d15_37)) ?_
          show Goes p e below QQ (s₁.setTop (mkF m 38 #[iv p1, iv p2, iv p3, iv p4, iv p5] [(.int (-1))]))
          exact Goes.rI X0 hx hret hlk (hb hby d15_38) hQQ ⟨congrArg (fun z => some (Value.int z)) (((if_pos hb1).trans ((if_pos hb2).trans ((if_neg hb3).trans ((if_neg hb4).trans rfl)))) : (slotF p1 p2 p3 p4 p5) = (-1 : Int32)).symm, N0, e0⟩ (by decide) (by decide)
    · refine G1 (XS.icmpNo X0.here hx rfl (hb hby d15_14) rfl (flt hb2).1) ?_
      show Gs p e below QQ s₁ m 17 #[iv p1, iv p2, iv p3, iv p4, iv p5] []
      refine G1 (XS.iloadN X0.here hx rfl (hb hby d15_17) rfl) ?_
      refine G1 (XS.iloadN X0.here hx rfl (hb hby d15_18) rfl) ?_
      show Goes p e below QQ (s₁.setTop (mkF m 19 #[iv p1, iv p2, iv p3, iv p4, iv p5] [(.int p4), (.int p1)]))
      by_cases hb5 : p1 = p4
      · refine G1 (XS.icmpNo X0.here hx rfl (hb hby d15_19) rfl (teq hb5).2) ?_
        show Gs p e below QQ s₁ m 22 #[iv p1, iv p2, iv p3, iv p4, iv p5] []
        refine G1 (XS.iconst X0.here hx rfl (hb hby d15_22)) ?_
        show Goes p e below QQ (s₁.setTop (mkF m 23 #[iv p1, iv p2, iv p3, iv p4, iv p5] [(.int 1)]))
        exact Goes.rI X0 hx hret hlk (hb hby d15_23) hQQ ⟨congrArg (fun z => some (Value.int z)) (((if_pos hb1).trans ((if_neg hb2).trans ((if_pos hb5).trans rfl))) : (slotF p1 p2 p3 p4 p5) = (1 : Int32)).symm, N0, e0⟩ (by decide) (by decide)
      · refine G1 (XS.icmpYes X0.here hx rfl (pc0 := 19) (pc' := 24) rfl (hb hby d15_19) rfl (feq hb5).2 (by decide) (by decide)) ?_
        show Gs p e below QQ s₁ m 24 #[iv p1, iv p2, iv p3, iv p4, iv p5] []
        refine G1 (XS.iloadN X0.here hx rfl (hb hby d15_24) rfl) ?_
        refine G1 (XS.iconst X0.here hx rfl (hb hby d15_25)) ?_
        show Goes p e below QQ (s₁.setTop (mkF m 26 #[iv p1, iv p2, iv p3, iv p4, iv p5] [(.int 3), (.int p2)]))
        by_cases hb6 : p2 < (3 : Int32)
        · refine G1 (XS.icmpYes X0.here hx rfl (pc0 := 26) (pc' := 37) rfl (hb hby d15_26) rfl (tlt hb6).1 (by decide) (by decide)) ?_
          show Gs p e below QQ s₁ m 37 #[iv p1, iv p2, iv p3, iv p4, iv p5] []
          refine G1 (XS.iconst X0.here hx rfl (hb hby d15_37)) ?_
          show Goes p e below QQ (s₁.setTop (mkF m 38 #[iv p1, iv p2, iv p3, iv p4, iv p5] [(.int (-1))]))
          exact Goes.rI X0 hx hret hlk (hb hby d15_38) hQQ ⟨congrArg (fun z => some (Value.int z)) (((if_pos hb1).trans ((if_neg hb2).trans ((if_neg hb5).trans ((if_pos hb6).trans rfl)))) : (slotF p1 p2 p3 p4 p5) = (-1 : Int32)).symm, N0, e0⟩ (by decide) (by decide)
        · refine G1 (XS.icmpNo X0.here hx rfl (hb hby d15_26) rfl (flt hb6).1) ?_
          show Gs p e below QQ s₁ m 29 #[iv p1, iv p2, iv p3, iv p4, iv p5] []
          refine G1 (XS.iloadN X0.here hx rfl (hb hby d15_29) rfl) ?_
          refine G1 (XS.iload X0.here hx rfl (hb hby d15_30) rfl) ?_
          show Goes p e below QQ (s₁.setTop (mkF m 32 #[iv p1, iv p2, iv p3, iv p4, iv p5] [(.int p5), (.int p1)]))
          by_cases hb7 : p1 = p5
          · refine G1 (XS.icmpNo X0.here hx rfl (hb hby d15_32) rfl (teq hb7).2) ?_
            show Gs p e below QQ s₁ m 35 #[iv p1, iv p2, iv p3, iv p4, iv p5] []
            refine G1 (XS.iconst X0.here hx rfl (hb hby d15_35)) ?_
            show Goes p e below QQ (s₁.setTop (mkF m 36 #[iv p1, iv p2, iv p3, iv p4, iv p5] [(.int 2)]))
            exact Goes.rI X0 hx hret hlk (hb hby d15_36) hQQ ⟨congrArg (fun z => some (Value.int z)) (((if_pos hb1).trans ((if_neg hb2).trans ((if_neg hb5).trans ((if_neg hb6).trans ((if_pos hb7).trans rfl))))) : (slotF p1 p2 p3 p4 p5) = (2 : Int32)).symm, N0, e0⟩ (by decide) (by decide)
          · refine G1 (XS.icmpYes X0.here hx rfl (pc0 := 32) (pc' := 37) rfl (hb hby d15_32) rfl (feq hb7).2 (by decide) (by decide)) ?_
            show Gs p e below QQ s₁ m 37 #[iv p1, iv p2, iv p3, iv p4, iv p5] []
            refine G1 (XS.iconst X0.here hx rfl (hb hby d15_37)) ?_
            show Goes p e below QQ (s₁.setTop (mkF m 38 #[iv p1, iv p2, iv p3, iv p4, iv p5] [(.int (-1))]))
            exact Goes.rI X0 hx hret hlk (hb hby d15_38) hQQ ⟨congrArg (fun z => some (Value.int z)) (((if_pos hb1).trans ((if_neg hb2).trans ((if_neg hb5).trans ((if_neg hb6).trans ((if_neg hb7).trans rfl))))) : (slotF p1 p2 p3 p4 p5) = (-1 : Int32)).symm, N0, e0⟩ (by decide) (by decide)
  · refine G1 (XS.icmpNo X0.here hx rfl (hb hby d15_2) rfl (flt hb1).1) ?_
    show Gs p e below QQ s₁ m 5 #[iv p1, iv p2, iv p3, iv p4, iv p5] []
    refine G1 (XS.iloadN X0.here hx rfl (hb hby d15_5) rfl) ?_
    refine G1 (XS.iloadN X0.here hx rfl (hb hby d15_6) rfl) ?_
    show Goes p e below QQ (s₁.setTop (mkF m 7 #[iv p1, iv p2, iv p3, iv p4, iv p5] [(.int p3), (.int p1)]))
    by_cases hb8 : p1 = p3
    · refine G1 (XS.icmpNo X0.here hx rfl (hb hby d15_7) rfl (teq hb8).2) ?_
      show Gs p e below QQ s₁ m 10 #[iv p1, iv p2, iv p3, iv p4, iv p5] []
      refine G1 (XS.iconst X0.here hx rfl (hb hby d15_10)) ?_
      show Goes p e below QQ (s₁.setTop (mkF m 11 #[iv p1, iv p2, iv p3, iv p4, iv p5] [(.int 0)]))
      exact Goes.rI X0 hx hret hlk (hb hby d15_11) hQQ ⟨congrArg (fun z => some (Value.int z)) (((if_neg hb1).trans ((if_pos hb8).trans rfl)) : (slotF p1 p2 p3 p4 p5) = (0 : Int32)).symm, N0, e0⟩ (by decide) (by decide)
    · refine G1 (XS.icmpYes X0.here hx rfl (pc0 := 7) (pc' := 12) rfl (hb hby d15_7) rfl (feq hb8).2 (by decide) (by decide)) ?_
      show Gs p e below QQ s₁ m 12 #[iv p1, iv p2, iv p3, iv p4, iv p5] []
      refine G1 (XS.iloadN X0.here hx rfl (hb hby d15_12) rfl) ?_
      refine G1 (XS.iconst X0.here hx rfl (hb hby d15_13)) ?_
      show Goes p e below QQ (s₁.setTop (mkF m 14 #[iv p1, iv p2, iv p3, iv p4, iv p5] [(.int 2), (.int p2)]))
      by_cases hb9 : p2 < (2 : Int32)
      · refine G1 (XS.icmpYes X0.here hx rfl (pc0 := 14) (pc' := 24) rfl (hb hby d15_14) rfl (tlt hb9).1 (by decide) (by decide)) ?_
        show Gs p e below QQ s₁ m 24 #[iv p1, iv p2, iv p3, iv p4, iv p5] []
        refine G1 (XS.iloadN X0.here hx rfl (hb hby d15_24) rfl) ?_
        refine G1 (XS.iconst X0.here hx rfl (hb hby d15_25)) ?_
        show Goes p e below QQ (s₁.setTop (mkF m 26 #[iv p1, iv p2, iv p3, iv p4, iv p5] [(.int 3), (.int p2)]))
        by_cases hb10 : p2 < (3 : Int32)
        · refine G1 (XS.icmpYes X0.here hx rfl (pc0 := 26) (pc' := 37) rfl (hb hby d15_26) rfl (tlt hb10).1 (by decide) (by decide)) ?_
          show Gs p e below QQ s₁ m 37 #[iv p1, iv p2, iv p3, iv p4, iv p5] []
          refine G1 (XS.iconst X0.here hx rfl (hb hby d15_37)) ?_
          show Goes p e below QQ (s₁.setTop (mkF m 38 #[iv p1, iv p2, iv p3, iv p4, iv p5] [(.int (-1))]))
          exact Goes.rI X0 hx hret hlk (hb hby d15_38) hQQ ⟨congrArg (fun z => some (Value.int z)) (((if_neg hb1).trans ((if_neg hb8).trans ((if_pos hb9).trans ((if_pos hb10).trans rfl)))) : (slotF p1 p2 p3 p4 p5) = (-1 : Int32)).symm, N0, e0⟩ (by decide) (by decide)
        · refine G1 (XS.icmpNo X0.here hx rfl (hb hby d15_26) rfl (flt hb10).1) ?_
          show Gs p e below QQ s₁ m 29 #[iv p1, iv p2, iv p3, iv p4, iv p5] []
          refine G1 (XS.iloadN X0.here hx rfl (hb hby d15_29) rfl) ?_
          refine G1 (XS.iload X0.here hx rfl (hb hby d15_30) rfl) ?_
          show Goes p e below QQ (s₁.setTop (mkF m 32 #[iv p1, iv p2, iv p3, iv p4, iv p5] [(.int p5), (.int p1)]))
          by_cases hb11 : p1 = p5
          · refine G1 (XS.icmpNo X0.here hx rfl (hb hby d15_32) rfl (teq hb11).2) ?_
            show Gs p e below QQ s₁ m 35 #[iv p1, iv p2, iv p3, iv p4, iv p5] []
            refine G1 (XS.iconst X0.here hx rfl (hb hby d15_35)) ?_
            show Goes p e below QQ (s₁.setTop (mkF m 36 #[iv p1, iv p2, iv p3, iv p4, iv p5] [(.int 2)]))
            exact Goes.rI X0 hx hret hlk (hb hby d15_36) hQQ ⟨congrArg (fun z => some (Value.int z)) (((if_neg hb1).trans ((if_neg hb8).trans ((if_pos hb9).trans ((if_neg hb10).trans ((if_pos hb11).trans rfl))))) : (slotF p1 p2 p3 p4 p5) = (2 : Int32)).symm, N0, e0⟩ (by decide) (by decide)
          · refine G1 (XS.icmpYes X0.here hx rfl (pc0 := 32) (pc' := 37) rfl (hb hby d15_32) rfl (feq hb11).2 (by decide) (by decide)) ?_
            show Gs p e below QQ s₁ m 37 #[iv p1, iv p2, iv p3, iv p4, iv p5] []
            refine G1 (XS.iconst X0.here hx rfl (hb hby d15_37)) ?_
            show Goes p e below QQ (s₁.setTop (mkF m 38 #[iv p1, iv p2, iv p3, iv p4, iv p5] [(.int (-1))]))
            exact Goes.rI X0 hx hret hlk (hb hby d15_38) hQQ ⟨congrArg (fun z => some (Value.int z)) (((if_neg hb1).trans ((if_neg hb8).trans ((if_pos hb9).trans ((if_neg hb10).trans ((if_neg hb11).trans rfl))))) : (slotF p1 p2 p3 p4 p5) = (-1 : Int32)).symm, N0, e0⟩ (by decide) (by decide)
      · refine G1 (XS.icmpNo X0.here hx rfl (hb hby d15_14) rfl (flt hb9).1) ?_
        show Gs p e below QQ s₁ m 17 #[iv p1, iv p2, iv p3, iv p4, iv p5] []
        refine G1 (XS.iloadN X0.here hx rfl (hb hby d15_17) rfl) ?_
        refine G1 (XS.iloadN X0.here hx rfl (hb hby d15_18) rfl) ?_
        show Goes p e below QQ (s₁.setTop (mkF m 19 #[iv p1, iv p2, iv p3, iv p4, iv p5] [(.int p4), (.int p1)]))
        by_cases hb12 : p1 = p4
        · refine G1 (XS.icmpNo X0.here hx rfl (hb hby d15_19) rfl (teq hb12).2) ?_
          show Gs p e below QQ s₁ m 22 #[iv p1, iv p2, iv p3, iv p4, iv p5] []
          refine G1 (XS.iconst X0.here hx rfl (hb hby d15_22)) ?_
          show Goes p e below QQ (s₁.setTop (mkF m 23 #[iv p1, iv p2, iv p3, iv p4, iv p5] [(.int 1)]))
          exact Goes.rI X0 hx hret hlk (hb hby d15_23) hQQ ⟨congrArg (fun z => some (Value.int z)) (((if_neg hb1).trans ((if_neg hb8).trans ((if_neg hb9).trans ((if_pos hb12).trans rfl)))) : (slotF p1 p2 p3 p4 p5) = (1 : Int32)).symm, N0, e0⟩ (by decide) (by decide)
        · refine G1 (XS.icmpYes X0.here hx rfl (pc0 := 19) (pc' := 24) rfl (hb hby d15_19) rfl (feq hb12).2 (by decide) (by decide)) ?_
          show Gs p e below QQ s₁ m 24 #[iv p1, iv p2, iv p3, iv p4, iv p5] []
          refine G1 (XS.iloadN X0.here hx rfl (hb hby d15_24) rfl) ?_
          refine G1 (XS.iconst X0.here hx rfl (hb hby d15_25)) ?_
          show Goes p e below QQ (s₁.setTop (mkF m 26 #[iv p1, iv p2, iv p3, iv p4, iv p5] [(.int 3), (.int p2)]))
          by_cases hb13 : p2 < (3 : Int32)
          · refine G1 (XS.icmpYes X0.here hx rfl (pc0 := 26) (pc' := 37) rfl (hb hby d15_26) rfl (tlt hb13).1 (by decide) (by decide)) ?_
            show Gs p e below QQ s₁ m 37 #[iv p1, iv p2, iv p3, iv p4, iv p5] []
            refine G1 (XS.iconst X0.here hx rfl (hb hby d15_37)) ?_
            show Goes p e below QQ (s₁.setTop (mkF m 38 #[iv p1, iv p2, iv p3, iv p4, iv p5] [(.int (-1))]))
            exact Goes.rI X0 hx hret hlk (hb hby d15_38) hQQ ⟨congrArg (fun z => some (Value.int z)) (((if_neg hb1).trans ((if_neg hb8).trans ((if_neg hb9).trans ((if_neg hb12).trans ((if_pos hb13).trans rfl))))) : (slotF p1 p2 p3 p4 p5) = (-1 : Int32)).symm, N0, e0⟩ (by decide) (by decide)
          · refine G1 (XS.icmpNo X0.here hx rfl (hb hby d15_26) rfl (flt hb13).1) ?_
            show Gs p e below QQ s₁ m 29 #[iv p1, iv p2, iv p3, iv p4, iv p5] []
            refine G1 (XS.iloadN X0.here hx rfl (hb hby d15_29) rfl) ?_
            refine G1 (XS.iload X0.here hx rfl (hb hby d15_30) rfl) ?_
            show Goes p e below QQ (s₁.setTop (mkF m 32 #[iv p1, iv p2, iv p3, iv p4, iv p5] [(.int p5), (.int p1)]))
            by_cases hb14 : p1 = p5
            · refine G1 (XS.icmpNo X0.here hx rfl (hb hby d15_32) rfl (teq hb14).2) ?_
              show Gs p e below QQ s₁ m 35 #[iv p1, iv p2, iv p3, iv p4, iv p5] []
              refine G1 (XS.iconst X0.here hx rfl (hb hby d15_35)) ?_
              show Goes p e below QQ (s₁.setTop (mkF m 36 #[iv p1, iv p2, iv p3, iv p4, iv p5] [(.int 2)]))
              exact Goes.rI X0 hx hret hlk (hb hby d15_36) hQQ ⟨congrArg (fun z => some (Value.int z)) (((if_neg hb1).trans ((if_neg hb8).trans ((if_neg hb9).trans ((if_neg hb12).trans ((if_neg hb13).trans ((if_pos hb14).trans rfl)))))) : (slotF p1 p2 p3 p4 p5) = (2 : Int32)).symm, N0, e0⟩ (by decide) (by decide)
            · refine G1 (XS.icmpYes X0.here hx rfl (pc0 := 32) (pc' := 37) rfl (hb hby d15_32) rfl (feq hb14).2 (by decide) (by decide)) ?_
              show Gs p e below QQ s₁ m 37 #[iv p1, iv p2, iv p3, iv p4, iv p5] []
              refine G1 (XS.iconst X0.here hx rfl (hb hby d15_37)) ?_
              show Goes p e below QQ (s₁.setTop (mkF m 38 #[iv p1, iv p2, iv p3, iv p4, iv p5] [(.int (-1))]))
              exact Goes.rI X0 hx hret hlk (hb hby d15_38) hQQ ⟨congrArg (fun z => some (Value.int z)) (((if_neg hb1).trans ((if_neg hb8).trans ((if_neg hb9).trans ((if_neg hb12).trans ((if_neg hb13).trans ((if_neg hb14).trans rfl)))))) : (slotF p1 p2 p3 p4 p5) = (-1 : Int32)).symm, N0, e0⟩ (by decide) (by decide)
theorem d8_0 : decode prog_150_method_9_code 0 = .ok (.aload_n 0, 1) := by decide +kernel
theorem d8_1 : decode prog_150_method_9_code 1 = .ok (.getfield 31, 3) := by decide +kernel
theorem d8_4 : decode prog_150_method_9_code 4 = .ok (.aload_n 0, 1) := by decide +kernel
theorem d8_5 : decode prog_150_method_9_code 5 = .ok (.getfield 13, 3) := by decide +kernel
theorem d8_8 : decode prog_150_method_9_code 8 = .ok (.arraylength, 1) := by decide +kernel
theorem d8_9 : decode prog_150_method_9_code 9 = .ok (.if_icmp .ne 24, 3) := by decide +kernel
theorem d8_12 : decode prog_150_method_9_code 12 = .ok (.aload_n 0, 1) := by decide +kernel
theorem d8_13 : decode prog_150_method_9_code 13 = .ok (.aload_n 0, 1) := by decide +kernel
theorem d8_14 : decode prog_150_method_9_code 14 = .ok (.getfield 13, 3) := by decide +kernel
theorem d8_17 : decode prog_150_method_9_code 17 = .ok (.iconst 2, 1) := by decide +kernel
theorem d8_18 : decode prog_150_method_9_code 18 = .ok (.aload_n 0, 1) := by decide +kernel
theorem d8_19 : decode prog_150_method_9_code 19 = .ok (.getfield 31, 3) := by decide +kernel
theorem d8_22 : decode prog_150_method_9_code 22 = .ok (.imul, 1) := by decide +kernel
theorem d8_23 : decode prog_150_method_9_code 23 = .ok (.iconst 4, 1) := by decide +kernel
theorem d8_24 : decode prog_150_method_9_code 24 = .ok (.invokestatic 21, 3) := by decide +kernel
theorem d8_27 : decode prog_150_method_9_code 27 = .ok (.invokestatic 55, 3) := by decide +kernel
theorem d8_30 : decode prog_150_method_9_code 30 = .ok (.putfield 13, 3) := by decide +kernel
theorem d8_33 : decode prog_150_method_9_code 33 = .ok (.aload_n 0, 1) := by decide +kernel
theorem d8_34 : decode prog_150_method_9_code 34 = .ok (.getfield 13, 3) := by decide +kernel
theorem d8_37 : decode prog_150_method_9_code 37 = .ok (.aload_n 0, 1) := by decide +kernel
theorem d8_38 : decode prog_150_method_9_code 38 = .ok (.getfield 31, 3) := by decide +kernel
theorem d8_41 : decode prog_150_method_9_code 41 = .ok (.iload_n 1, 1) := by decide +kernel
theorem d8_42 : decode prog_150_method_9_code 42 = .ok (.iastore, 1) := by decide +kernel
theorem d8_43 : decode prog_150_method_9_code 43 = .ok (.aload_n 0, 1) := by decide +kernel
theorem d8_44 : decode prog_150_method_9_code 44 = .ok (.dup, 1) := by decide +kernel
theorem d8_45 : decode prog_150_method_9_code 45 = .ok (.getfield 31, 3) := by decide +kernel
theorem d8_48 : decode prog_150_method_9_code 48 = .ok (.iconst 1, 1) := by decide +kernel
theorem d8_49 : decode prog_150_method_9_code 49 = .ok (.iadd, 1) := by decide +kernel
theorem d8_50 : decode prog_150_method_9_code 50 = .ok (.putfield 31, 3) := by decide +kernel
theorem d8_53 : decode prog_150_method_9_code 53 = .ok (.aload_n 0, 1) := by decide +kernel
theorem d8_54 : decode prog_150_method_9_code 54 = .ok (.getfield 35, 3) := by decide +kernel
theorem d8_57 : decode prog_150_method_9_code 57 = .ok (.ifnonnull 15, 3) := by decide +kernel
theorem d8_60 : decode prog_150_method_9_code 60 = .ok (.aload_n 0, 1) := by decide +kernel
theorem d8_61 : decode prog_150_method_9_code 61 = .ok (.getfield 31, 3) := by decide +kernel
theorem d8_64 : decode prog_150_method_9_code 64 = .ok (.bipush 8, 2) := by decide +kernel
theorem d8_66 : decode prog_150_method_9_code 66 = .ok (.if_icmp .le 31, 3) := by decide +kernel
theorem d8_69 : decode prog_150_method_9_code 69 = .ok (.goto 17, 3) := by decide +kernel
theorem d8_72 : decode prog_150_method_9_code 72 = .ok (.iconst 2, 1) := by decide +kernel
theorem d8_73 : decode prog_150_method_9_code 73 = .ok (.aload_n 0, 1) := by decide +kernel
theorem d8_74 : decode prog_150_method_9_code 74 = .ok (.getfield 31, 3) := by decide +kernel
theorem d8_77 : decode prog_150_method_9_code 77 = .ok (.imul, 1) := by decide +kernel
theorem d8_78 : decode prog_150_method_9_code 78 = .ok (.aload_n 0, 1) := by decide +kernel
theorem d8_79 : decode prog_150_method_9_code 79 = .ok (.getfield 35, 3) := by decide +kernel
theorem d8_82 : decode prog_150_method_9_code 82 = .ok (.arraylength, 1) := by decide +kernel
theorem d8_83 : decode prog_150_method_9_code 83 = .ok (.if_icmp .le 14, 3) := by decide +kernel
theorem d8_86 : decode prog_150_method_9_code 86 = .ok (.aload_n 0, 1) := by decide +kernel
theorem d8_87 : decode prog_150_method_9_code 87 = .ok (.aload_n 0, 1) := by decide +kernel
theorem d8_88 : decode prog_150_method_9_code 88 = .ok (.getfield 31, 3) := by decide +kernel
theorem d8_91 : decode prog_150_method_9_code 91 = .ok (.invokevirtual 17, 3) := by decide +kernel
theorem d8_94 : decode prog_150_method_9_code 94 = .ok (.goto 20, 3) := by decide +kernel
theorem d8_97 : decode prog_150_method_9_code 97 = .ok (.aload_n 0, 1) := by decide +kernel
theorem d8_98 : decode prog_150_method_9_code 98 = .ok (.getfield 35, 3) := by decide +kernel
theorem d8_101 : decode prog_150_method_9_code 101 = .ok (.ifnull 13, 3) := by decide +kernel
theorem d8_104 : decode prog_150_method_9_code 104 = .ok (.aload_n 0, 1) := by decide +kernel
theorem d8_105 : decode prog_150_method_9_code 105 = .ok (.aload_n 0, 1) := by decide +kernel
theorem d8_106 : decode prog_150_method_9_code 106 = .ok (.getfield 31, 3) := by decide +kernel
theorem d8_109 : decode prog_150_method_9_code 109 = .ok (.iconst 1, 1) := by decide +kernel
theorem d8_110 : decode prog_150_method_9_code 110 = .ok (.isub, 1) := by decide +kernel
theorem d8_111 : decode prog_150_method_9_code 111 = .ok (.invokevirtual 61, 3) := by decide +kernel
theorem d8_114 : decode prog_150_method_9_code 114 = .ok (.return_, 1) := by decide +kernel
theorem pn_8 : plainFor (⟨"com/example/bindery/bindery/PartIndex", "add", "(I)V"⟩ : MethodName) = true := plainFor_of_name (show plainName "com/example/bindery/bindery/PartIndex" = true by first | (simp [plainName, overriddenIn]; done) | decide +kernel)
theorem ef_rmA0_0 (m : MethodId) (x0 : Addr) (x1 : Int32) : entryFrame m #[(.ref x0), (.int x1)] 2 = mkF m 0 #[rv x0, iv x1] [] := by first | (simp [entryFrame, mkF, argsToLocals, Value.category]; done) | rfl
theorem pd_3 : parseMethodDescriptor "([II)[I" = some ⟨[(.array .int), .int], some (.array .int)⟩ := by decide +kernel
set_option maxRecDepth 65536 in
set_option maxHeartbeats 40000000 in
theorem rmA0_0 (l : Launch) (Z : State) (a0 : Array Value) (hw : ∀ d ∈ tables_1, d.before a0 Z = true) (ws : List Jvm.Cond) (a1 b1 : Addr) (p1 : Int32) (kb : ClassId) (nn sh x0 x1 x2 : Int32) (h0 : Heap) (n0 : Nat) (Z0 : n0 ≤ h0.size) (E_a1 : Exa Z h0 a1 "com/example/bindery/bindery/PartIndex") (F_hashes_a1 : Fld Z h0 a1 "com/example/bindery/bindery/PartIndex" "hashes" "[I" (.ref b1)) (F_slots_a1 : Fld Z h0 a1 "com/example/bindery/bindery/PartIndex" "slots" "[I" .null) (F_shift_a1 : Fld Z h0 a1 "com/example/bindery/bindery/PartIndex" "shift" "I" (.int sh)) (F_size_a1 : Fld Z h0 a1 "com/example/bindery/bindery/PartIndex" "size" "I" (.int 0)) (V_b1 : Arv Z h0 b1 kb .int nn [(.int x0), (.int x1), (.int x2)] (.int 0)) (g_a1 : n0 ≤ a1) (g_b1 : n0 ≤ b1) (ne_a1_b1 : a1 ≠ b1) (hN : (0 : Int32).toInt ≤ nn.toInt) :
    MetFree l (⟨"com/example/bindery/bindery/PartIndex", "add", "(I)V"⟩ : MethodName) (head1 (Jvm.Cond.code (⟨"com/example/bindery/bindery/PartIndex", "add", "(I)V"⟩ : MethodName) prog_150_method_9_code 2 none :: ws) ({ frames := 2, cells := 1, slots := 4, locals := 55 } : Room)) (fun a U => a = #[(.ref a1), (.int p1)] ∧ Z.Warmed39 U.vm ∧ U.heap = h0) (fun _ _ _ _ _ => True) (fun _ U o U' => ∃ v L, o = .returned v ∧ QA0 Z a1 b1 (1 : Int32) sh h0 n0 v U'.heap L ∧ FrameEnd U o U' L ({ frames := 2, cells := 1, slots := 4, locals := 55 } : Room).cells ({ frames := 2, cells := 1, slots := 4, locals := 55 } : Room).slots) := by
  refine own_enter pn_8 ?_
  intro p e s m below meth c s₁ QQ hQQ hx hby hml hown hnm hret hlk hZ X0 e0
  have hown : s.vm.findClass "com/example/bindery/bindery/PartIndex" = some m.cls := hown
  have hml : c.maxLocals = 2 := hml
  have hret : meth.sig.returnType = none := hret
  have N0 := Fr.nil n0
  have K0 := Keep.refl h0 [a1, b1]
  refine Goes.cast (ef_rmA0_0 m a1 p1) ?_
  show Goes p e below QQ (s₁.setTop (mkF m 0 #[rv a1, iv p1] []))
  refine G1 (XS.aloadN X0.here hx rfl (hb hby d8_0) rfl rfl) ?_
  show Goes p e below QQ (s₁.setTop (mkF m 1 #[rv a1, iv p1] [(.ref a1)]))
  obtain ⟨T1, X1, e1, st1⟩ := getF X0 hx hZ hown (host := "") (Or.inl (wI hw 31 rfl)) Via.refl e0 F_size_a1 (g := (mkF m 1 #[rv a1, iv p1] [(.ref a1)])) rfl rfl (hb hby d8_1)
  refine Goes.on (fun t k => st1 t k) ?_
  show Goes p e below QQ (T1.setTop (mkF m 4 #[rv a1, iv p1] [(.int 0)]))
  refine G1 (XS.aloadN X1.here hx rfl (hb hby d8_4) rfl rfl) ?_
  show Goes p e below QQ (T1.setTop (mkF m 5 #[rv a1, iv p1] [(.ref a1), (.int 0)]))
  obtain ⟨T2, X2, e2, st2⟩ := getF X1 hx hZ hown (host := "") (Or.inl (wI hw 21 rfl)) Via.refl e1 F_hashes_a1 (g := (mkF m 5 #[rv a1, iv p1] [(.ref a1), (.int 0)])) rfl rfl (hb hby d8_5)
  refine Goes.on (fun t k => st2 t k) ?_
  show Goes p e below QQ (T2.setTop (mkF m 8 #[rv a1, iv p1] [(.ref b1), (.int 0)]))
  obtain ⟨cl3, Ar3, aq3, aS3, aN3, aH3, aG3⟩ := id V_b1
  refine Goes.on (fun t k => X2.arraylength hx (by rw [e2]; exact Ar3.1) (State.isArrayOf_alike hZ.alike Ar3.2.1) (g := (mkF m 8 #[rv a1, iv p1] [(.ref b1), (.int 0)])) rfl rfl (hb hby d8_8) t k) ?_
  rw [len_of aS3 aN3]
  show Goes p e below QQ (T2.setTop (mkF m 9 #[rv a1, iv p1] [(.int nn), (.int 0)]))
  by_cases heq : (0 : Int32) = nn
  · subst heq
    show Goes p e below QQ (T2.setTop (mkF m 9 #[rv a1, iv p1] [(.int 0), (.int 0)]))
    refine G1 (XS.icmpNo X2.here hx rfl (hb hby d8_9) rfl (teq rfl).2) ?_
    show Gs p e below QQ T2 m 12 #[rv a1, iv p1] []
    refine G1 (XS.aloadN X2.here hx rfl (hb hby d8_12) rfl rfl) ?_
    refine G1 (XS.aloadN X2.here hx rfl (hb hby d8_13) rfl rfl) ?_
    show Goes p e below QQ (T2.setTop (mkF m 14 #[rv a1, iv p1] [(.ref a1), (.ref a1)]))
    obtain ⟨T4, X4, e4, st4⟩ := getF X2 hx hZ hown (host := "") (Or.inl (wI hw 21 rfl)) Via.refl e2 F_hashes_a1 (g := (mkF m 14 #[rv a1, iv p1] [(.ref a1), (.ref a1)])) rfl rfl (hb hby d8_14)
    refine Goes.on (fun t k => st4 t k) ?_
    show Goes p e below QQ (T4.setTop (mkF m 17 #[rv a1, iv p1] [(.ref b1), (.ref a1)]))
    refine G1 (XS.iconst X4.here hx rfl (hb hby d8_17)) ?_
    refine G1 (XS.aloadN X4.here hx rfl (hb hby d8_18) rfl rfl) ?_
    show Goes p e below QQ (T4.setTop (mkF m 19 #[rv a1, iv p1] [(.ref a1), (.int 2), (.ref b1), (.ref a1)]))
    obtain ⟨T5, X5, e5, st5⟩ := getF X4 hx hZ hown (host := "") (Or.inl (wI hw 31 rfl)) Via.refl e4 F_size_a1 (g := (mkF m 19 #[rv a1, iv p1] [(.ref a1), (.int 2), (.ref b1), (.ref a1)])) rfl rfl (hb hby d8_19)
    refine Goes.on (fun t k => st5 t k) ?_
    show Goes p e below QQ (T5.setTop (mkF m 22 #[rv a1, iv p1] [(.int 0), (.int 2), (.ref b1), (.ref a1)]))
    refine G1 (XS.imul X5.here hx rfl (hb hby d8_22) rfl) ?_
    show Goes p e below QQ (T5.setTop (mkF m 23 #[rv a1, iv p1] [(.int ((2 : Int32) * (0 : Int32))), (.ref b1), (.ref a1)]))
    rw [(by decide : ((2 : Int32) * (0 : Int32)) = (0 : Int32))]
    show Goes p e below QQ (T5.setTop (mkF m 23 #[rv a1, iv p1] [(.int 0), (.ref b1), (.ref a1)]))
    refine G1 (XS.iconst X5.here hx rfl (hb hby d8_23)) ?_
    show Goes p e below QQ (T5.setTop (mkF m 24 #[rv a1, iv p1] [(.int 4), (.int 0), (.ref b1), (.ref a1)]))
    obtain ⟨_, _, ⟨T6, L6, k6, n6⟩, -, X6, ⟨Lc6, hQ6, l6, y6, z6⟩, st6⟩ := Jvm.LawKit.callS X5 hx (y := (⟨"java/lang/Math", "max", "(II)I"⟩ : MethodName)) hown (mvT hZ (wI hw 12 rfl)) (mvT hZ (wI hw 13 rfl)) (mvT hZ (wI hw 14 rfl)) (mvT hZ (wI hw 15 rfl)) (by decide) (backOf (W := 2) (rmMx l Z a0 hw [] (0 : Int32) (4 : Int32) h0 n0 (Nat.le_trans Z0 K0.1) ) hZ (wI hw 15 rfl) (wI hw 14 rfl) (by decide) (by decide)) (g := (mkF m 24 #[rv a1, iv p1] [(.int 4), (.int 0), (.ref b1), (.ref a1)])) rfl (by rw [hml]; rfl) (argsL := [(.int 0), (.int 4)]) (rest := [(.ref b1), (.ref a1)]) (lenOf pd_0 rfl) rfl (by show 2 * 0 + _ ≤ _; exact Nat.le_of_eq rfl) (hb hby d8_24) (fun _ _ => ⟨rfl, e5, (by decide : 0 + 0 ≤ _), (by decide : 0 + 0 ≤ _)⟩)
    dsimp only [Pt.U, Pt.locs, Pt.cells, Pt.slots] at X6 l6 y6 z6 st6 hQ6
    have l6 := l6.symm; have y6 := y6.symm; have z6 := z6.symm; subst l6 y6 z6
    have X6 : Stand p l e ({ frames := 2, cells := 1, slots := 4, locals := 55 } : Room) s m #[(.ref a1), (.int p1)] below meth c T6 _ 0 0 := X6
    obtain ⟨rfl, M6, e6⟩ := hQ6
    have N6 := Fr.app N0 M6
    refine Goes.on (fun t k => st6 _ k) ?_
    show Goes p e below QQ (T6.setTop (mkF m 27 #[rv a1, iv p1] [(.int (maxF (0 : Int32) (4 : Int32))), (.ref b1), (.ref a1)]))
    rw [(by decide : (maxF (0 : Int32) (4 : Int32)) = (4 : Int32))]
    show Goes p e below QQ (T6.setTop (mkF m 27 #[rv a1, iv p1] [(.int 4), (.ref b1), (.ref a1)]))
    obtain ⟨_, _, ⟨T7, L7, k7, n7⟩, -, X7, ⟨Lc7, hQ7, l7, y7, z7⟩, st7⟩ := Jvm.LawKit.callS X6 hx (y := (⟨"java/util/Arrays", "copyOf", "([II)[I"⟩ : MethodName)) hown (mvT hZ (wI hw 42 rfl)) (mvT hZ (wI hw 43 rfl)) (mvT hZ (wI hw 44 rfl)) (mvT hZ (wI hw 45 rfl)) (by decide) (backOf (W := 1) (rmCp0 l Z a0 hw [] b1 kb x0 x1 x2 h0 n0 (Nat.le_trans Z0 K0.1) V_b1) hZ (wI hw 45 rfl) (wI hw 44 rfl) (by decide) (by decide)) (g := (mkF m 27 #[rv a1, iv p1] [(.int 4), (.ref b1), (.ref a1)])) rfl (by rw [hml]; rfl) (argsL := [(.ref b1), (.int 4)]) (rest := [(.ref a1)]) (lenOf pd_3 rfl) rfl (by show 2 * 0 + _ ≤ _; exact Nat.le_of_eq rfl) (hb hby d8_27) (fun _ _ => ⟨rfl, e6, (by decide : 0 + 1 ≤ _), (by decide : 0 + 4 ≤ _)⟩)
    dsimp only [Pt.U, Pt.locs, Pt.cells, Pt.slots] at X7 l7 y7 z7 st7 hQ7
    have l7 := l7.symm; have y7 := y7.symm; have z7 := z7.symm; subst l7 y7 z7
    have X7 : Stand p l e ({ frames := 2, cells := 1, slots := 4, locals := 55 } : Room) s m #[(.ref a1), (.int p1)] below meth c T7 _ 1 4 := X7
    obtain ⟨b9, k9, rfl, M7, Kc, szc, V9⟩ := hQ7
    have sz_b9 : h0.size ≤ b9 := Nat.le_trans K0.1 szc
    have g_b9 : n0 ≤ b9 := Nat.le_trans Z0 sz_b9
    have ne_a1_b9 : a1 ≠ b9 := Nat.ne_of_lt (Nat.lt_of_lt_of_le E_a1.lt szc)
    have ne_b1_b9 : b1 ≠ b9 := Nat.ne_of_lt (Nat.lt_of_lt_of_le V_b1.lt szc)
    have N7 := Fr.app N6 M7
    refine Goes.on (fun t k => st7 _ k) ?_
    have E_8 := E_a1.keep Kc
    have F_9 := F_hashes_a1.keep Kc nin0
    have F_10 := F_slots_a1.keep Kc nin0
    have F_11 := F_shift_a1.keep Kc nin0
    have F_12 := F_size_a1.keep Kc nin0
    have V_13 := V_b1.keep Kc nin0
    have K14 := K0.trans Kc all0
    show Goes p e below QQ (T7.setTop (mkF m 30 #[rv a1, iv p1] [(.ref b9), (.ref a1)]))
    obtain ⟨T15, h15, X15, e15, W15, st15⟩ := putF X7 hx hZ hown (host := "") (Or.inl (wI hw 21 rfl)) Via.refl rfl F_9 E_8 (Or.inl (wI hw 22 rfl)) (wI hw 1 rfl) (ty := (.array .int)) (by decide) rfl rfl (g := (mkF m 30 #[rv a1, iv p1] [(.ref b9), (.ref a1)])) rfl rfl (hb hby d8_30)
    have E_16 := E_8.wr W15
    have F_17 := F_10.other W15 (Or.inr (slot_ne (Or.inl (wI hw 30 rfl)) (Or.inl (wI hw 22 rfl)) (by decide) (t := (.array .int)) (t' := (.array .int)) (by decide) (by decide)))
    have F_18 := F_11.other W15 (Or.inr (slot_ne (Or.inl (wI hw 61 rfl)) (Or.inl (wI hw 22 rfl)) (by decide) (t := .int) (t' := (.array .int)) (by decide) (by decide)))
    have F_19 := F_12.other W15 (Or.inr (slot_ne (Or.inl (wI hw 32 rfl)) (Or.inl (wI hw 22 rfl)) (by decide) (t := .int) (t' := (.array .int)) (by decide) (by decide)))
    have V_20 := V_13.other W15 (Ne.symm ne_a1_b1)
    have V9_21 := V9.other W15 (Ne.symm ne_a1_b9)
    have K15 := K14.wr W15 (Or.inl (List.mem_of_getElem? (i := 0) rfl))
    have N15 := Fr.snoc X15 N7 g_a1
    have F_22 : Fld Z h15 a1 "com/example/bindery/bindery/PartIndex" "hashes" "[I" (.ref b9) := F_9.same W15
    refine Goes.on (fun t k => st15 t k) ?_
    show Goes p e below QQ (T15.setTop (mkF m 33 #[rv a1, iv p1] []))
    refine G1 (XS.aloadN X15.here hx rfl (hb hby d8_33) rfl rfl) ?_
    show Goes p e below QQ (T15.setTop (mkF m 34 #[rv a1, iv p1] [(.ref a1)]))
    obtain ⟨T23, X23, e23, st23⟩ := getF X15 hx hZ hown (host := "") (Or.inl (wI hw 21 rfl)) Via.refl e15 F_22 (g := (mkF m 34 #[rv a1, iv p1] [(.ref a1)])) rfl rfl (hb hby d8_34)
    refine Goes.on (fun t k => st23 t k) ?_
    show Goes p e below QQ (T23.setTop (mkF m 37 #[rv a1, iv p1] [(.ref b9)]))
    refine G1 (XS.aloadN X23.here hx rfl (hb hby d8_37) rfl rfl) ?_
    show Goes p e below QQ (T23.setTop (mkF m 38 #[rv a1, iv p1] [(.ref a1), (.ref b9)]))
    obtain ⟨T24, X24, e24, st24⟩ := getF X23 hx hZ hown (host := "") (Or.inl (wI hw 31 rfl)) Via.refl e23 F_19 (g := (mkF m 38 #[rv a1, iv p1] [(.ref a1), (.ref b9)])) rfl rfl (hb hby d8_38)
    refine Goes.on (fun t k => st24 t k) ?_
    show Goes p e below QQ (T24.setTop (mkF m 41 #[rv a1, iv p1] [(.int 0), (.ref b9)]))
    refine G1 (XS.iloadN X24.here hx rfl (hb hby d8_41) rfl) ?_
    show Goes p e below QQ (T24.setTop (mkF m 42 #[rv a1, iv p1] [(.int p1), (.int 0), (.ref b9)]))
    obtain ⟨cl25, Ar25, aq25, aS25, aN25, aH25, aG25⟩ := id V9_21
    have hin25 := inb_of (j := (0 : Int32)) aS25 ⟨by decide, by decide⟩
    obtain ⟨T26, h26, X26, e26, W26, st26⟩ := stI X24 hx hZ e24 Ar25 (j := (0 : Int32)) hin25 (g := (mkF m 42 #[rv a1, iv p1] [(.int p1), (.int 0), (.ref b9)])) rfl rfl (hb hby d8_42)
    have E_27 := E_16.wr W26
    have F_28 := F_22.other W26 (Or.inl ne_a1_b9)
    have F_29 := F_17.other W26 (Or.inl ne_a1_b9)
    have F_30 := F_18.other W26 (Or.inl ne_a1_b9)
    have F_31 := F_19.other W26 (Or.inl ne_a1_b9)
    have V_32 := V_20.other W26 ne_b1_b9
    have K26 := K15.wr W26 (Or.inr sz_b9)
    have N26 := Fr.snoc X26 N15 g_b9
    have V_33 : Arv Z h26 b9 k9 .int (4 : Int32) [(.int p1), (.int 0), (.int 0), (.int 0)] (.int 0) := Arv.set Ar25 aq25 aS25 aN25 aH25 aG25 rfl W26 0 rfl (Nat.le_of_ble_eq_true rfl)
    refine Goes.on (fun t k => st26 t k) ?_
    show Goes p e below QQ (T26.setTop (mkF m 43 #[rv a1, iv p1] []))
    refine G1 (XS.aloadN X26.here hx rfl (hb hby d8_43) rfl rfl) ?_
    refine G1 (XS.dup X26.here hx rfl (hb hby d8_44) rfl rfl) ?_
    show Goes p e below QQ (T26.setTop (mkF m 45 #[rv a1, iv p1] [(.ref a1), (.ref a1)]))
    obtain ⟨T34, X34, e34, st34⟩ := getF X26 hx hZ hown (host := "") (Or.inl (wI hw 31 rfl)) Via.refl e26 F_31 (g := (mkF m 45 #[rv a1, iv p1] [(.ref a1), (.ref a1)])) rfl rfl (hb hby d8_45)
    refine Goes.on (fun t k => st34 t k) ?_
    show Goes p e below QQ (T34.setTop (mkF m 48 #[rv a1, iv p1] [(.int 0), (.ref a1)]))
    refine G1 (XS.iconst X34.here hx rfl (hb hby d8_48)) ?_
    show Gs p e below QQ T34 m 49 #[rv a1, iv p1] [(.int 1), (.int 0), (.ref a1)]
    refine G1 (XS.iadd X34.here hx rfl (hb hby d8_49) rfl) ?_
    show Goes p e below QQ (T34.setTop (mkF m 50 #[rv a1, iv p1] [(.int ((0 : Int32) + (1 : Int32))), (.ref a1)]))
    rw [(by decide : ((0 : Int32) + (1 : Int32)) = (1 : Int32))]
    show Goes p e below QQ (T34.setTop (mkF m 50 #[rv a1, iv p1] [(.int 1), (.ref a1)]))
    obtain ⟨T35, h35, X35, e35, W35, st35⟩ := putF X34 hx hZ hown (host := "") (Or.inl (wI hw 31 rfl)) Via.refl e34 F_31 E_27 (Or.inl (wI hw 32 rfl)) (wI hw 1 rfl) (ty := .int) (by decide) rfl rfl (g := (mkF m 50 #[rv a1, iv p1] [(.int 1), (.ref a1)])) rfl rfl (hb hby d8_50)
    have E_36 := E_27.wr W35
    have F_37 := F_28.other W35 (Or.inr (slot_ne (Or.inl (wI hw 22 rfl)) (Or.inl (wI hw 32 rfl)) (by decide) (t := (.array .int)) (t' := .int) (by decide) (by decide)))
    have F_38 := F_29.other W35 (Or.inr (slot_ne (Or.inl (wI hw 30 rfl)) (Or.inl (wI hw 32 rfl)) (by decide) (t := (.array .int)) (t' := .int) (by decide) (by decide)))
    have F_39 := F_30.other W35 (Or.inr (slot_ne (Or.inl (wI hw 61 rfl)) (Or.inl (wI hw 32 rfl)) (by decide) (t := .int) (t' := .int) (by decide) (by decide)))
    have V_40 := V_32.other W35 (Ne.symm ne_a1_b1)
    have V_41 := V_33.other W35 (Ne.symm ne_a1_b9)
    have K35 := K26.wr W35 (Or.inl (List.mem_of_getElem? (i := 0) rfl))
    have N35 := Fr.snoc X35 N26 g_a1
    have F_42 : Fld Z h35 a1 "com/example/bindery/bindery/PartIndex" "size" "I" (.int 1) := F_31.same W35
    refine Goes.on (fun t k => st35 t k) ?_
    show Goes p e below QQ (T35.setTop (mkF m 53 #[rv a1, iv p1] []))
    refine G1 (XS.aloadN X35.here hx rfl (hb hby d8_53) rfl rfl) ?_
    show Goes p e below QQ (T35.setTop (mkF m 54 #[rv a1, iv p1] [(.ref a1)]))
    obtain ⟨T43, X43, e43, st43⟩ := getF X35 hx hZ hown (host := "") (Or.inl (wI hw 29 rfl)) Via.refl e35 F_38 (g := (mkF m 54 #[rv a1, iv p1] [(.ref a1)])) rfl rfl (hb hby d8_54)
    refine Goes.on (fun t k => st43 t k) ?_
    show Goes p e below QQ (T43.setTop (mkF m 57 #[rv a1, iv p1] [.null]))
    refine G1 (XS.ifnonnullNo X43.here hx rfl (hb hby d8_57) rfl) ?_
    show Gs p e below QQ T43 m 60 #[rv a1, iv p1] []
    refine G1 (XS.aloadN X43.here hx rfl (hb hby d8_60) rfl rfl) ?_
    show Goes p e below QQ (T43.setTop (mkF m 61 #[rv a1, iv p1] [(.ref a1)]))
    obtain ⟨T44, X44, e44, st44⟩ := getF X43 hx hZ hown (host := "") (Or.inl (wI hw 31 rfl)) Via.refl e43 F_42 (g := (mkF m 61 #[rv a1, iv p1] [(.ref a1)])) rfl rfl (hb hby d8_61)
    refine Goes.on (fun t k => st44 t k) ?_
    show Goes p e below QQ (T44.setTop (mkF m 64 #[rv a1, iv p1] [(.int 1)]))
    refine G1 (XS.bipush X44.here hx rfl (hb hby d8_64)) ?_
    show Gs p e below QQ T44 m 66 #[rv a1, iv p1] [(.int 8), (.int 1)]
    refine G1 (XS.icmpYes X44.here hx rfl (pc0 := 66) (pc' := 97) rfl (hb hby d8_66) rfl (flt (by decide)).2.2.2 (by decide) (by decide)) ?_
    show Gs p e below QQ T44 m 97 #[rv a1, iv p1] []
    refine G1 (XS.aloadN X44.here hx rfl (hb hby d8_97) rfl rfl) ?_
    show Goes p e below QQ (T44.setTop (mkF m 98 #[rv a1, iv p1] [(.ref a1)]))
    obtain ⟨T45, X45, e45, st45⟩ := getF X44 hx hZ hown (host := "") (Or.inl (wI hw 29 rfl)) Via.refl e44 F_38 (g := (mkF m 98 #[rv a1, iv p1] [(.ref a1)])) rfl rfl (hb hby d8_98)
    refine Goes.on (fun t k => st45 t k) ?_
    show Goes p e below QQ (T45.setTop (mkF m 101 #[rv a1, iv p1] [.null]))
    refine G1 (XS.ifnullYes X45.here hx rfl (pc0 := 101) (pc' := 114) rfl (hb hby d8_101) rfl (by decide) (by decide)) ?_
    show Goes p e below QQ (T45.setTop (mkF m 114 #[rv a1, iv p1] []))
    have Vz : Arv Z h35 b9 k9 .int (4 : Int32) [(.int p1), (.int 0), (.int 0)] (.int (0 : Int32)) := own_drop4 V_41
    exact Goes.rV X45 hx hret hlk (hb hby d8_114) hQQ (by rw [e45]; exact ⟨b9, k9, (4 : Int32), p1, (0 : Int32), (0 : Int32), rfl, N35, K35, g_b9, Or.inr sz_b9, ne_a1_b9, (by decide), ⟨F_37, F_38, F_39, F_42⟩, Vz⟩) (by decide) (by decide)
  · refine G1 (XS.icmpYes X2.here hx rfl (pc0 := 9) (pc' := 33) rfl (hb hby d8_9) rfl (feq heq).2 (by decide) (by decide)) ?_
    show Gs p e below QQ T2 m 33 #[rv a1, iv p1] []
    refine G1 (XS.aloadN X2.here hx rfl (hb hby d8_33) rfl rfl) ?_
    show Goes p e below QQ (T2.setTop (mkF m 34 #[rv a1, iv p1] [(.ref a1)]))
    obtain ⟨T46, X46, e46, st46⟩ := getF X2 hx hZ hown (host := "") (Or.inl (wI hw 21 rfl)) Via.refl e2 F_hashes_a1 (g := (mkF m 34 #[rv a1, iv p1] [(.ref a1)])) rfl rfl (hb hby d8_34)
    refine Goes.on (fun t k => st46 t k) ?_
    show Goes p e below QQ (T46.setTop (mkF m 37 #[rv a1, iv p1] [(.ref b1)]))
    refine G1 (XS.aloadN X46.here hx rfl (hb hby d8_37) rfl rfl) ?_
    show Goes p e below QQ (T46.setTop (mkF m 38 #[rv a1, iv p1] [(.ref a1), (.ref b1)]))
    obtain ⟨T47, X47, e47, st47⟩ := getF X46 hx hZ hown (host := "") (Or.inl (wI hw 31 rfl)) Via.refl e46 F_size_a1 (g := (mkF m 38 #[rv a1, iv p1] [(.ref a1), (.ref b1)])) rfl rfl (hb hby d8_38)
    refine Goes.on (fun t k => st47 t k) ?_
    show Goes p e below QQ (T47.setTop (mkF m 41 #[rv a1, iv p1] [(.int 0), (.ref b1)]))
    refine G1 (XS.iloadN X47.here hx rfl (hb hby d8_41) rfl) ?_
    show Goes p e below QQ (T47.setTop (mkF m 42 #[rv a1, iv p1] [(.int p1), (.int 0), (.ref b1)]))
    obtain ⟨cl48, Ar48, aq48, aS48, aN48, aH48, aG48⟩ := id V_b1
    have hin48 := inb_of (j := (0 : Int32)) aS48 ⟨by decide, own_strict nn (0 : Int32) hN heq⟩
    obtain ⟨T49, h49, X49, e49, W49, st49⟩ := stI X47 hx hZ e47 Ar48 (j := (0 : Int32)) hin48 (g := (mkF m 42 #[rv a1, iv p1] [(.int p1), (.int 0), (.ref b1)])) rfl rfl (hb hby d8_42)
    have E_50 := E_a1.wr W49
    have F_51 := F_hashes_a1.other W49 (Or.inl ne_a1_b1)
    have F_52 := F_slots_a1.other W49 (Or.inl ne_a1_b1)
    have F_53 := F_shift_a1.other W49 (Or.inl ne_a1_b1)
    have F_54 := F_size_a1.other W49 (Or.inl ne_a1_b1)
    have K49 := K0.wr W49 (Or.inl (List.mem_of_getElem? (i := 1) rfl))
    have N49 := Fr.snoc X49 N0 g_b1
    have V_55 : Arv Z h49 b1 kb .int nn [(.int p1), (.int x1), (.int x2)] (.int 0) := Arv.set Ar48 aq48 aS48 aN48 aH48 aG48 rfl W49 0 rfl (Nat.le_of_ble_eq_true rfl)
    refine Goes.on (fun t k => st49 t k) ?_
    show Goes p e below QQ (T49.setTop (mkF m 43 #[rv a1, iv p1] []))
    refine G1 (XS.aloadN X49.here hx rfl (hb hby d8_43) rfl rfl) ?_
    refine G1 (XS.dup X49.here hx rfl (hb hby d8_44) rfl rfl) ?_
    show Goes p e below QQ (T49.setTop (mkF m 45 #[rv a1, iv p1] [(.ref a1), (.ref a1)]))
    obtain ⟨T56, X56, e56, st56⟩ := getF X49 hx hZ hown (host := "") (Or.inl (wI hw 31 rfl)) Via.refl e49 F_54 (g := (mkF m 45 #[rv a1, iv p1] [(.ref a1), (.ref a1)])) rfl rfl (hb hby d8_45)
    refine Goes.on (fun t k => st56 t k) ?_
    show Goes p e below QQ (T56.setTop (mkF m 48 #[rv a1, iv p1] [(.int 0), (.ref a1)]))
    refine G1 (XS.iconst X56.here hx rfl (hb hby d8_48)) ?_
    show Gs p e below QQ T56 m 49 #[rv a1, iv p1] [(.int 1), (.int 0), (.ref a1)]
    refine G1 (XS.iadd X56.here hx rfl (hb hby d8_49) rfl) ?_
    show Goes p e below QQ (T56.setTop (mkF m 50 #[rv a1, iv p1] [(.int ((0 : Int32) + (1 : Int32))), (.ref a1)]))
    rw [(by decide : ((0 : Int32) + (1 : Int32)) = (1 : Int32))]
    show Goes p e below QQ (T56.setTop (mkF m 50 #[rv a1, iv p1] [(.int 1), (.ref a1)]))
    obtain ⟨T57, h57, X57, e57, W57, st57⟩ := putF X56 hx hZ hown (host := "") (Or.inl (wI hw 31 rfl)) Via.refl e56 F_54 E_50 (Or.inl (wI hw 32 rfl)) (wI hw 1 rfl) (ty := .int) (by decide) rfl rfl (g := (mkF m 50 #[rv a1, iv p1] [(.int 1), (.ref a1)])) rfl rfl (hb hby d8_50)
    have E_58 := E_50.wr W57
    have F_59 := F_51.other W57 (Or.inr (slot_ne (Or.inl (wI hw 22 rfl)) (Or.inl (wI hw 32 rfl)) (by decide) (t := (.array .int)) (t' := .int) (by decide) (by decide)))
    have F_60 := F_52.other W57 (Or.inr (slot_ne (Or.inl (wI hw 30 rfl)) (Or.inl (wI hw 32 rfl)) (by decide) (t := (.array .int)) (t' := .int) (by decide) (by decide)))
    have F_61 := F_53.other W57 (Or.inr (slot_ne (Or.inl (wI hw 61 rfl)) (Or.inl (wI hw 32 rfl)) (by decide) (t := .int) (t' := .int) (by decide) (by decide)))
    have V_62 := V_55.other W57 (Ne.symm ne_a1_b1)
    have K57 := K49.wr W57 (Or.inl (List.mem_of_getElem? (i := 0) rfl))
    have N57 := Fr.snoc X57 N49 g_a1
    have F_63 : Fld Z h57 a1 "com/example/bindery/bindery/PartIndex" "size" "I" (.int 1) := F_54.same W57
    refine Goes.on (fun t k => st57 t k) ?_
    show Goes p e below QQ (T57.setTop (mkF m 53 #[rv a1, iv p1] []))
    refine G1 (XS.aloadN X57.here hx rfl (hb hby d8_53) rfl rfl) ?_
    show Goes p e below QQ (T57.setTop (mkF m 54 #[rv a1, iv p1] [(.ref a1)]))
    obtain ⟨T64, X64, e64, st64⟩ := getF X57 hx hZ hown (host := "") (Or.inl (wI hw 29 rfl)) Via.refl e57 F_60 (g := (mkF m 54 #[rv a1, iv p1] [(.ref a1)])) rfl rfl (hb hby d8_54)
    refine Goes.on (fun t k => st64 t k) ?_
    show Goes p e below QQ (T64.setTop (mkF m 57 #[rv a1, iv p1] [.null]))
    refine G1 (XS.ifnonnullNo X64.here hx rfl (hb hby d8_57) rfl) ?_
    show Gs p e below QQ T64 m 60 #[rv a1, iv p1] []
    refine G1 (XS.aloadN X64.here hx rfl (hb hby d8_60) rfl rfl) ?_
    show Goes p e below QQ (T64.setTop (mkF m 61 #[rv a1, iv p1] [(.ref a1)]))
    obtain ⟨T65, X65, e65, st65⟩ := getF X64 hx hZ hown (host := "") (Or.inl (wI hw 31 rfl)) Via.refl e64 F_63 (g := (mkF m 61 #[rv a1, iv p1] [(.ref a1)])) rfl rfl (hb hby d8_61)
    refine Goes.on (fun t k => st65 t k) ?_
    show Goes p e below QQ (T65.setTop (mkF m 64 #[rv a1, iv p1] [(.int 1)]))
    refine G1 (XS.bipush X65.here hx rfl (hb hby d8_64)) ?_
    show Gs p e below QQ T65 m 66 #[rv a1, iv p1] [(.int 8), (.int 1)]
    refine G1 (XS.icmpYes X65.here hx rfl (pc0 := 66) (pc' := 97) rfl (hb hby d8_66) rfl (flt (by decide)).2.2.2 (by decide) (by decide)) ?_
    show Gs p e below QQ T65 m 97 #[rv a1, iv p1] []
    refine G1 (XS.aloadN X65.here hx rfl (hb hby d8_97) rfl rfl) ?_
    show Goes p e below QQ (T65.setTop (mkF m 98 #[rv a1, iv p1] [(.ref a1)]))
    obtain ⟨T66, X66, e66, st66⟩ := getF X65 hx hZ hown (host := "") (Or.inl (wI hw 29 rfl)) Via.refl e65 F_60 (g := (mkF m 98 #[rv a1, iv p1] [(.ref a1)])) rfl rfl (hb hby d8_98)
    refine Goes.on (fun t k => st66 t k) ?_
    show Goes p e below QQ (T66.setTop (mkF m 101 #[rv a1, iv p1] [.null]))
    refine G1 (XS.ifnullYes X66.here hx rfl (pc0 := 101) (pc' := 114) rfl (hb hby d8_101) rfl (by decide) (by decide)) ?_
    show Goes p e below QQ (T66.setTop (mkF m 114 #[rv a1, iv p1] []))
    exact Goes.rV X66 hx hret hlk (hb hby d8_114) hQQ (by rw [e66]; exact ⟨b1, kb, nn, p1, x1, x2, rfl, N57, K57, g_b1, Or.inl rfl, ne_a1_b1, own_next nn (0 : Int32) (1 : Int32) (by decide) (own_strict nn (0 : Int32) hN heq), ⟨F_59, F_60, F_61, F_63⟩, V_62⟩) (by decide) (by decide)
theorem ef_rmA0_1 (m : MethodId) (x0 : Addr) (x1 : Int32) : entryFrame m #[(.ref x0), (.int x1)] 2 = mkF m 0 #[rv x0, iv x1] [] := by first | (simp [entryFrame, mkF, argsToLocals, Value.category]; done) | rfl
set_option maxRecDepth 65536 in
set_option maxHeartbeats 40000000 in
theorem rmA0_1 (l : Launch) (Z : State) (a0 : Array Value) (hw : ∀ d ∈ tables_1, d.before a0 Z = true) (ws : List Jvm.Cond) (a1 b1 : Addr) (p1 : Int32) (kb : ClassId) (nn sh x0 x1 x2 : Int32) (h0 : Heap) (n0 : Nat) (Z0 : n0 ≤ h0.size) (E_a1 : Exa Z h0 a1 "com/example/bindery/bindery/PartIndex") (F_hashes_a1 : Fld Z h0 a1 "com/example/bindery/bindery/PartIndex" "hashes" "[I" (.ref b1)) (F_slots_a1 : Fld Z h0 a1 "com/example/bindery/bindery/PartIndex" "slots" "[I" .null) (F_shift_a1 : Fld Z h0 a1 "com/example/bindery/bindery/PartIndex" "shift" "I" (.int sh)) (F_size_a1 : Fld Z h0 a1 "com/example/bindery/bindery/PartIndex" "size" "I" (.int 1)) (V_b1 : Arv Z h0 b1 kb .int nn [(.int x0), (.int x1), (.int x2)] (.int 0)) (g_a1 : n0 ≤ a1) (g_b1 : n0 ≤ b1) (ne_a1_b1 : a1 ≠ b1) (hN : (1 : Int32).toInt ≤ nn.toInt) :
    MetFree l (⟨"com/example/bindery/bindery/PartIndex", "add", "(I)V"⟩ : MethodName) (head1 (Jvm.Cond.code (⟨"com/example/bindery/bindery/PartIndex", "add", "(I)V"⟩ : MethodName) prog_150_method_9_code 2 none :: ws) ({ frames := 2, cells := 1, slots := 4, locals := 55 } : Room)) (fun a U => a = #[(.ref a1), (.int p1)] ∧ Z.Warmed39 U.vm ∧ U.heap = h0) (fun _ _ _ _ _ => True) (fun _ U o U' => ∃ v L, o = .returned v ∧ QA0 Z a1 b1 (2 : Int32) sh h0 n0 v U'.heap L ∧ FrameEnd U o U' L ({ frames := 2, cells := 1, slots := 4, locals := 55 } : Room).cells ({ frames := 2, cells := 1, slots := 4, locals := 55 } : Room).slots) := by
  refine own_enter pn_8 ?_
  intro p e s m below meth c s₁ QQ hQQ hx hby hml hown hnm hret hlk hZ X0 e0
  have hown : s.vm.findClass "com/example/bindery/bindery/PartIndex" = some m.cls := hown
  have hml : c.maxLocals = 2 := hml
  have hret : meth.sig.returnType = none := hret
  have N0 := Fr.nil n0
  have K0 := Keep.refl h0 [a1, b1]
  refine Goes.cast (ef_rmA0_1 m a1 p1) ?_
  show Goes p e below QQ (s₁.setTop (mkF m 0 #[rv a1, iv p1] []))
  refine G1 (XS.aloadN X0.here hx rfl (hb hby d8_0) rfl rfl) ?_
  show Goes p e below QQ (s₁.setTop (mkF m 1 #[rv a1, iv p1] [(.ref a1)]))
  obtain ⟨T1, X1, e1, st1⟩ := getF X0 hx hZ hown (host := "") (Or.inl (wI hw 31 rfl)) Via.refl e0 F_size_a1 (g := (mkF m 1 #[rv a1, iv p1] [(.ref a1)])) rfl rfl (hb hby d8_1)
  refine Goes.on (fun t k => st1 t k) ?_
  show Goes p e below QQ (T1.setTop (mkF m 4 #[rv a1, iv p1] [(.int 1)]))
  refine G1 (XS.aloadN X1.here hx rfl (hb hby d8_4) rfl rfl) ?_
  show Goes p e below QQ (T1.setTop (mkF m 5 #[rv a1, iv p1] [(.ref a1), (.int 1)]))
  obtain ⟨T2, X2, e2, st2⟩ := getF X1 hx hZ hown (host := "") (Or.inl (wI hw 21 rfl)) Via.refl e1 F_hashes_a1 (g := (mkF m 5 #[rv a1, iv p1] [(.ref a1), (.int 1)])) rfl rfl (hb hby d8_5)
  refine Goes.on (fun t k => st2 t k) ?_
  show Goes p e below QQ (T2.setTop (mkF m 8 #[rv a1, iv p1] [(.ref b1), (.int 1)]))
  obtain ⟨cl3, Ar3, aq3, aS3, aN3, aH3, aG3⟩ := id V_b1
  refine Goes.on (fun t k => X2.arraylength hx (by rw [e2]; exact Ar3.1) (State.isArrayOf_alike hZ.alike Ar3.2.1) (g := (mkF m 8 #[rv a1, iv p1] [(.ref b1), (.int 1)])) rfl rfl (hb hby d8_8) t k) ?_
  rw [len_of aS3 aN3]
  show Goes p e below QQ (T2.setTop (mkF m 9 #[rv a1, iv p1] [(.int nn), (.int 1)]))
  by_cases heq : (1 : Int32) = nn
  · subst heq
    show Goes p e below QQ (T2.setTop (mkF m 9 #[rv a1, iv p1] [(.int 1), (.int 1)]))
    refine G1 (XS.icmpNo X2.here hx rfl (hb hby d8_9) rfl (teq rfl).2) ?_
    show Gs p e below QQ T2 m 12 #[rv a1, iv p1] []
    refine G1 (XS.aloadN X2.here hx rfl (hb hby d8_12) rfl rfl) ?_
    refine G1 (XS.aloadN X2.here hx rfl (hb hby d8_13) rfl rfl) ?_
    show Goes p e below QQ (T2.setTop (mkF m 14 #[rv a1, iv p1] [(.ref a1), (.ref a1)]))
    obtain ⟨T4, X4, e4, st4⟩ := getF X2 hx hZ hown (host := "") (Or.inl (wI hw 21 rfl)) Via.refl e2 F_hashes_a1 (g := (mkF m 14 #[rv a1, iv p1] [(.ref a1), (.ref a1)])) rfl rfl (hb hby d8_14)
    refine Goes.on (fun t k => st4 t k) ?_
    show Goes p e below QQ (T4.setTop (mkF m 17 #[rv a1, iv p1] [(.ref b1), (.ref a1)]))
    refine G1 (XS.iconst X4.here hx rfl (hb hby d8_17)) ?_
    refine G1 (XS.aloadN X4.here hx rfl (hb hby d8_18) rfl rfl) ?_
    show Goes p e below QQ (T4.setTop (mkF m 19 #[rv a1, iv p1] [(.ref a1), (.int 2), (.ref b1), (.ref a1)]))
    obtain ⟨T5, X5, e5, st5⟩ := getF X4 hx hZ hown (host := "") (Or.inl (wI hw 31 rfl)) Via.refl e4 F_size_a1 (g := (mkF m 19 #[rv a1, iv p1] [(.ref a1), (.int 2), (.ref b1), (.ref a1)])) rfl rfl (hb hby d8_19)
    refine Goes.on (fun t k => st5 t k) ?_
    show Goes p e below QQ (T5.setTop (mkF m 22 #[rv a1, iv p1] [(.int 1), (.int 2), (.ref b1), (.ref a1)]))
    refine G1 (XS.imul X5.here hx rfl (hb hby d8_22) rfl) ?_
    show Goes p e below QQ (T5.setTop (mkF m 23 #[rv a1, iv p1] [(.int ((2 : Int32) * (1 : Int32))), (.ref b1), (.ref a1)]))
    rw [(by decide : ((2 : Int32) * (1 : Int32)) = (2 : Int32))]
    show Goes p e below QQ (T5.setTop (mkF m 23 #[rv a1, iv p1] [(.int 2), (.ref b1), (.ref a1)]))
    refine G1 (XS.iconst X5.here hx rfl (hb hby d8_23)) ?_
    show Goes p e below QQ (T5.setTop (mkF m 24 #[rv a1, iv p1] [(.int 4), (.int 2), (.ref b1), (.ref a1)]))
    obtain ⟨_, _, ⟨T6, L6, k6, n6⟩, -, X6, ⟨Lc6, hQ6, l6, y6, z6⟩, st6⟩ := Jvm.LawKit.callS X5 hx (y := (⟨"java/lang/Math", "max", "(II)I"⟩ : MethodName)) hown (mvT hZ (wI hw 12 rfl)) (mvT hZ (wI hw 13 rfl)) (mvT hZ (wI hw 14 rfl)) (mvT hZ (wI hw 15 rfl)) (by decide) (backOf (W := 2) (rmMx l Z a0 hw [] (2 : Int32) (4 : Int32) h0 n0 (Nat.le_trans Z0 K0.1) ) hZ (wI hw 15 rfl) (wI hw 14 rfl) (by decide) (by decide)) (g := (mkF m 24 #[rv a1, iv p1] [(.int 4), (.int 2), (.ref b1), (.ref a1)])) rfl (by rw [hml]; rfl) (argsL := [(.int 2), (.int 4)]) (rest := [(.ref b1), (.ref a1)]) (lenOf pd_0 rfl) rfl (by show 2 * 0 + _ ≤ _; exact Nat.le_of_eq rfl) (hb hby d8_24) (fun _ _ => ⟨rfl, e5, (by decide : 0 + 0 ≤ _), (by decide : 0 + 0 ≤ _)⟩)
    dsimp only [Pt.U, Pt.locs, Pt.cells, Pt.slots] at X6 l6 y6 z6 st6 hQ6
    have l6 := l6.symm; have y6 := y6.symm; have z6 := z6.symm; subst l6 y6 z6
    have X6 : Stand p l e ({ frames := 2, cells := 1, slots := 4, locals := 55 } : Room) s m #[(.ref a1), (.int p1)] below meth c T6 _ 0 0 := X6
    obtain ⟨rfl, M6, e6⟩ := hQ6
    have N6 := Fr.app N0 M6
    refine Goes.on (fun t k => st6 _ k) ?_
    show Goes p e below QQ (T6.setTop (mkF m 27 #[rv a1, iv p1] [(.int (maxF (2 : Int32) (4 : Int32))), (.ref b1), (.ref a1)]))
    rw [(by decide : (maxF (2 : Int32) (4 : Int32)) = (4 : Int32))]
    show Goes p e below QQ (T6.setTop (mkF m 27 #[rv a1, iv p1] [(.int 4), (.ref b1), (.ref a1)]))
    obtain ⟨_, _, ⟨T7, L7, k7, n7⟩, -, X7, ⟨Lc7, hQ7, l7, y7, z7⟩, st7⟩ := Jvm.LawKit.callS X6 hx (y := (⟨"java/util/Arrays", "copyOf", "([II)[I"⟩ : MethodName)) hown (mvT hZ (wI hw 42 rfl)) (mvT hZ (wI hw 43 rfl)) (mvT hZ (wI hw 44 rfl)) (mvT hZ (wI hw 45 rfl)) (by decide) (backOf (W := 1) (rmCp1 l Z a0 hw [] b1 kb x0 x1 x2 h0 n0 (Nat.le_trans Z0 K0.1) V_b1) hZ (wI hw 45 rfl) (wI hw 44 rfl) (by decide) (by decide)) (g := (mkF m 27 #[rv a1, iv p1] [(.int 4), (.ref b1), (.ref a1)])) rfl (by rw [hml]; rfl) (argsL := [(.ref b1), (.int 4)]) (rest := [(.ref a1)]) (lenOf pd_3 rfl) rfl (by show 2 * 0 + _ ≤ _; exact Nat.le_of_eq rfl) (hb hby d8_27) (fun _ _ => ⟨rfl, e6, (by decide : 0 + 1 ≤ _), (by decide : 0 + 4 ≤ _)⟩)
    dsimp only [Pt.U, Pt.locs, Pt.cells, Pt.slots] at X7 l7 y7 z7 st7 hQ7
    have l7 := l7.symm; have y7 := y7.symm; have z7 := z7.symm; subst l7 y7 z7
    have X7 : Stand p l e ({ frames := 2, cells := 1, slots := 4, locals := 55 } : Room) s m #[(.ref a1), (.int p1)] below meth c T7 _ 1 4 := X7
    obtain ⟨b9, k9, rfl, M7, Kc, szc, V9⟩ := hQ7
    have sz_b9 : h0.size ≤ b9 := Nat.le_trans K0.1 szc
    have g_b9 : n0 ≤ b9 := Nat.le_trans Z0 sz_b9
    have ne_a1_b9 : a1 ≠ b9 := Nat.ne_of_lt (Nat.lt_of_lt_of_le E_a1.lt szc)
    have ne_b1_b9 : b1 ≠ b9 := Nat.ne_of_lt (Nat.lt_of_lt_of_le V_b1.lt szc)
    have N7 := Fr.app N6 M7
    refine Goes.on (fun t k => st7 _ k) ?_
    have E_8 := E_a1.keep Kc
    have F_9 := F_hashes_a1.keep Kc nin0
    have F_10 := F_slots_a1.keep Kc nin0
    have F_11 := F_shift_a1.keep Kc nin0
    have F_12 := F_size_a1.keep Kc nin0
    have V_13 := V_b1.keep Kc nin0
    have K14 := K0.trans Kc all0
    show Goes p e below QQ (T7.setTop (mkF m 30 #[rv a1, iv p1] [(.ref b9), (.ref a1)]))
    obtain ⟨T15, h15, X15, e15, W15, st15⟩ := putF X7 hx hZ hown (host := "") (Or.inl (wI hw 21 rfl)) Via.refl rfl F_9 E_8 (Or.inl (wI hw 22 rfl)) (wI hw 1 rfl) (ty := (.array .int)) (by decide) rfl rfl (g := (mkF m 30 #[rv a1, iv p1] [(.ref b9), (.ref a1)])) rfl rfl (hb hby d8_30)
    have E_16 := E_8.wr W15
    have F_17 := F_10.other W15 (Or.inr (slot_ne (Or.inl (wI hw 30 rfl)) (Or.inl (wI hw 22 rfl)) (by decide) (t := (.array .int)) (t' := (.array .int)) (by decide) (by decide)))
    have F_18 := F_11.other W15 (Or.inr (slot_ne (Or.inl (wI hw 61 rfl)) (Or.inl (wI hw 22 rfl)) (by decide) (t := .int) (t' := (.array .int)) (by decide) (by decide)))
    have F_19 := F_12.other W15 (Or.inr (slot_ne (Or.inl (wI hw 32 rfl)) (Or.inl (wI hw 22 rfl)) (by decide) (t := .int) (t' := (.array .int)) (by decide) (by decide)))
    have V_20 := V_13.other W15 (Ne.symm ne_a1_b1)
    have V9_21 := V9.other W15 (Ne.symm ne_a1_b9)
    have K15 := K14.wr W15 (Or.inl (List.mem_of_getElem? (i := 0) rfl))
    have N15 := Fr.snoc X15 N7 g_a1
    have F_22 : Fld Z h15 a1 "com/example/bindery/bindery/PartIndex" "hashes" "[I" (.ref b9) := F_9.same W15
    refine Goes.on (fun t k => st15 t k) ?_
    show Goes p e below QQ (T15.setTop (mkF m 33 #[rv a1, iv p1] []))
    refine G1 (XS.aloadN X15.here hx rfl (hb hby d8_33) rfl rfl) ?_
    show Goes p e below QQ (T15.setTop (mkF m 34 #[rv a1, iv p1] [(.ref a1)]))
    obtain ⟨T23, X23, e23, st23⟩ := getF X15 hx hZ hown (host := "") (Or.inl (wI hw 21 rfl)) Via.refl e15 F_22 (g := (mkF m 34 #[rv a1, iv p1] [(.ref a1)])) rfl rfl (hb hby d8_34)
    refine Goes.on (fun t k => st23 t k) ?_
    show Goes p e below QQ (T23.setTop (mkF m 37 #[rv a1, iv p1] [(.ref b9)]))
    refine G1 (XS.aloadN X23.here hx rfl (hb hby d8_37) rfl rfl) ?_
    show Goes p e below QQ (T23.setTop (mkF m 38 #[rv a1, iv p1] [(.ref a1), (.ref b9)]))
    obtain ⟨T24, X24, e24, st24⟩ := getF X23 hx hZ hown (host := "") (Or.inl (wI hw 31 rfl)) Via.refl e23 F_19 (g := (mkF m 38 #[rv a1, iv p1] [(.ref a1), (.ref b9)])) rfl rfl (hb hby d8_38)
    refine Goes.on (fun t k => st24 t k) ?_
    show Goes p e below QQ (T24.setTop (mkF m 41 #[rv a1, iv p1] [(.int 1), (.ref b9)]))
    refine G1 (XS.iloadN X24.here hx rfl (hb hby d8_41) rfl) ?_
    show Goes p e below QQ (T24.setTop (mkF m 42 #[rv a1, iv p1] [(.int p1), (.int 1), (.ref b9)]))
    obtain ⟨cl25, Ar25, aq25, aS25, aN25, aH25, aG25⟩ := id V9_21
    have hin25 := inb_of (j := (1 : Int32)) aS25 ⟨by decide, by decide⟩
    obtain ⟨T26, h26, X26, e26, W26, st26⟩ := stI X24 hx hZ e24 Ar25 (j := (1 : Int32)) hin25 (g := (mkF m 42 #[rv a1, iv p1] [(.int p1), (.int 1), (.ref b9)])) rfl rfl (hb hby d8_42)
    have E_27 := E_16.wr W26
    have F_28 := F_22.other W26 (Or.inl ne_a1_b9)
    have F_29 := F_17.other W26 (Or.inl ne_a1_b9)
    have F_30 := F_18.other W26 (Or.inl ne_a1_b9)
    have F_31 := F_19.other W26 (Or.inl ne_a1_b9)
    have V_32 := V_20.other W26 ne_b1_b9
    have K26 := K15.wr W26 (Or.inr sz_b9)
    have N26 := Fr.snoc X26 N15 g_b9
    have V_33 : Arv Z h26 b9 k9 .int (4 : Int32) [(.int x0), (.int p1), (.int 0), (.int 0)] (.int 0) := Arv.set Ar25 aq25 aS25 aN25 aH25 aG25 rfl W26 1 rfl (Nat.le_of_ble_eq_true rfl)
    refine Goes.on (fun t k => st26 t k) ?_
    show Goes p e below QQ (T26.setTop (mkF m 43 #[rv a1, iv p1] []))
    refine G1 (XS.aloadN X26.here hx rfl (hb hby d8_43) rfl rfl) ?_
    refine G1 (XS.dup X26.here hx rfl (hb hby d8_44) rfl rfl) ?_
    show Goes p e below QQ (T26.setTop (mkF m 45 #[rv a1, iv p1] [(.ref a1), (.ref a1)]))
    obtain ⟨T34, X34, e34, st34⟩ := getF X26 hx hZ hown (host := "") (Or.inl (wI hw 31 rfl)) Via.refl e26 F_31 (g := (mkF m 45 #[rv a1, iv p1] [(.ref a1), (.ref a1)])) rfl rfl (hb hby d8_45)
    refine Goes.on (fun t k => st34 t k) ?_
    show Goes p e below QQ (T34.setTop (mkF m 48 #[rv a1, iv p1] [(.int 1), (.ref a1)]))
    refine G1 (XS.iconst X34.here hx rfl (hb hby d8_48)) ?_
    show Gs p e below QQ T34 m 49 #[rv a1, iv p1] [(.int 1), (.int 1), (.ref a1)]
    refine G1 (XS.iadd X34.here hx rfl (hb hby d8_49) rfl) ?_
    show Goes p e below QQ (T34.setTop (mkF m 50 #[rv a1, iv p1] [(.int ((1 : Int32) + (1 : Int32))), (.ref a1)]))
    rw [(by decide : ((1 : Int32) + (1 : Int32)) = (2 : Int32))]
    show Goes p e below QQ (T34.setTop (mkF m 50 #[rv a1, iv p1] [(.int 2), (.ref a1)]))
    obtain ⟨T35, h35, X35, e35, W35, st35⟩ := putF X34 hx hZ hown (host := "") (Or.inl (wI hw 31 rfl)) Via.refl e34 F_31 E_27 (Or.inl (wI hw 32 rfl)) (wI hw 1 rfl) (ty := .int) (by decide) rfl rfl (g := (mkF m 50 #[rv a1, iv p1] [(.int 2), (.ref a1)])) rfl rfl (hb hby d8_50)
    have E_36 := E_27.wr W35
    have F_37 := F_28.other W35 (Or.inr (slot_ne (Or.inl (wI hw 22 rfl)) (Or.inl (wI hw 32 rfl)) (by decide) (t := (.array .int)) (t' := .int) (by decide) (by decide)))
    have F_38 := F_29.other W35 (Or.inr (slot_ne (Or.inl (wI hw 30 rfl)) (Or.inl (wI hw 32 rfl)) (by decide) (t := (.array .int)) (t' := .int) (by decide) (by decide)))
    have F_39 := F_30.other W35 (Or.inr (slot_ne (Or.inl (wI hw 61 rfl)) (Or.inl (wI hw 32 rfl)) (by decide) (t := .int) (t' := .int) (by decide) (by decide)))
    have V_40 := V_32.other W35 (Ne.symm ne_a1_b1)
    have V_41 := V_33.other W35 (Ne.symm ne_a1_b9)
    have K35 := K26.wr W35 (Or.inl (List.mem_of_getElem? (i := 0) rfl))
    have N35 := Fr.snoc X35 N26 g_a1
    have F_42 : Fld Z h35 a1 "com/example/bindery/bindery/PartIndex" "size" "I" (.int 2) := F_31.same W35
    refine Goes.on (fun t k => st35 t k) ?_
    show Goes p e below QQ (T35.setTop (mkF m 53 #[rv a1, iv p1] []))
    refine G1 (XS.aloadN X35.here hx rfl (hb hby d8_53) rfl rfl) ?_
    show Goes p e below QQ (T35.setTop (mkF m 54 #[rv a1, iv p1] [(.ref a1)]))
    obtain ⟨T43, X43, e43, st43⟩ := getF X35 hx hZ hown (host := "") (Or.inl (wI hw 29 rfl)) Via.refl e35 F_38 (g := (mkF m 54 #[rv a1, iv p1] [(.ref a1)])) rfl rfl (hb hby d8_54)
    refine Goes.on (fun t k => st43 t k) ?_
    show Goes p e below QQ (T43.setTop (mkF m 57 #[rv a1, iv p1] [.null]))
    refine G1 (XS.ifnonnullNo X43.here hx rfl (hb hby d8_57) rfl) ?_
    show Gs p e below QQ T43 m 60 #[rv a1, iv p1] []
    refine G1 (XS.aloadN X43.here hx rfl (hb hby d8_60) rfl rfl) ?_
    show Goes p e below QQ (T43.setTop (mkF m 61 #[rv a1, iv p1] [(.ref a1)]))
    obtain ⟨T44, X44, e44, st44⟩ := getF X43 hx hZ hown (host := "") (Or.inl (wI hw 31 rfl)) Via.refl e43 F_42 (g := (mkF m 61 #[rv a1, iv p1] [(.ref a1)])) rfl rfl (hb hby d8_61)
    refine Goes.on (fun t k => st44 t k) ?_
    show Goes p e below QQ (T44.setTop (mkF m 64 #[rv a1, iv p1] [(.int 2)]))
    refine G1 (XS.bipush X44.here hx rfl (hb hby d8_64)) ?_
    show Gs p e below QQ T44 m 66 #[rv a1, iv p1] [(.int 8), (.int 2)]
    refine G1 (XS.icmpYes X44.here hx rfl (pc0 := 66) (pc' := 97) rfl (hb hby d8_66) rfl (flt (by decide)).2.2.2 (by decide) (by decide)) ?_
    show Gs p e below QQ T44 m 97 #[rv a1, iv p1] []
    refine G1 (XS.aloadN X44.here hx rfl (hb hby d8_97) rfl rfl) ?_
    show Goes p e below QQ (T44.setTop (mkF m 98 #[rv a1, iv p1] [(.ref a1)]))
    obtain ⟨T45, X45, e45, st45⟩ := getF X44 hx hZ hown (host := "") (Or.inl (wI hw 29 rfl)) Via.refl e44 F_38 (g := (mkF m 98 #[rv a1, iv p1] [(.ref a1)])) rfl rfl (hb hby d8_98)
    refine Goes.on (fun t k => st45 t k) ?_
    show Goes p e below QQ (T45.setTop (mkF m 101 #[rv a1, iv p1] [.null]))
    refine G1 (XS.ifnullYes X45.here hx rfl (pc0 := 101) (pc' := 114) rfl (hb hby d8_101) rfl (by decide) (by decide)) ?_
    show Goes p e below QQ (T45.setTop (mkF m 114 #[rv a1, iv p1] []))
    have Vz : Arv Z h35 b9 k9 .int (4 : Int32) [(.int x0), (.int p1), (.int 0)] (.int (0 : Int32)) := own_drop4 V_41
    exact Goes.rV X45 hx hret hlk (hb hby d8_114) hQQ (by rw [e45]; exact ⟨b9, k9, (4 : Int32), x0, p1, (0 : Int32), rfl, N35, K35, g_b9, Or.inr sz_b9, ne_a1_b9, (by decide), ⟨F_37, F_38, F_39, F_42⟩, Vz⟩) (by decide) (by decide)
  · refine G1 (XS.icmpYes X2.here hx rfl (pc0 := 9) (pc' := 33) rfl (hb hby d8_9) rfl (feq heq).2 (by decide) (by decide)) ?_
    show Gs p e below QQ T2 m 33 #[rv a1, iv p1] []
    refine G1 (XS.aloadN X2.here hx rfl (hb hby d8_33) rfl rfl) ?_
    show Goes p e below QQ (T2.setTop (mkF m 34 #[rv a1, iv p1] [(.ref a1)]))
    obtain ⟨T46, X46, e46, st46⟩ := getF X2 hx hZ hown (host := "") (Or.inl (wI hw 21 rfl)) Via.refl e2 F_hashes_a1 (g := (mkF m 34 #[rv a1, iv p1] [(.ref a1)])) rfl rfl (hb hby d8_34)
    refine Goes.on (fun t k => st46 t k) ?_
    show Goes p e below QQ (T46.setTop (mkF m 37 #[rv a1, iv p1] [(.ref b1)]))
    refine G1 (XS.aloadN X46.here hx rfl (hb hby d8_37) rfl rfl) ?_
    show Goes p e below QQ (T46.setTop (mkF m 38 #[rv a1, iv p1] [(.ref a1), (.ref b1)]))
    obtain ⟨T47, X47, e47, st47⟩ := getF X46 hx hZ hown (host := "") (Or.inl (wI hw 31 rfl)) Via.refl e46 F_size_a1 (g := (mkF m 38 #[rv a1, iv p1] [(.ref a1), (.ref b1)])) rfl rfl (hb hby d8_38)
    refine Goes.on (fun t k => st47 t k) ?_
    show Goes p e below QQ (T47.setTop (mkF m 41 #[rv a1, iv p1] [(.int 1), (.ref b1)]))
    refine G1 (XS.iloadN X47.here hx rfl (hb hby d8_41) rfl) ?_
    show Goes p e below QQ (T47.setTop (mkF m 42 #[rv a1, iv p1] [(.int p1), (.int 1), (.ref b1)]))
    obtain ⟨cl48, Ar48, aq48, aS48, aN48, aH48, aG48⟩ := id V_b1
    have hin48 := inb_of (j := (1 : Int32)) aS48 ⟨by decide, own_strict nn (1 : Int32) hN heq⟩
    obtain ⟨T49, h49, X49, e49, W49, st49⟩ := stI X47 hx hZ e47 Ar48 (j := (1 : Int32)) hin48 (g := (mkF m 42 #[rv a1, iv p1] [(.int p1), (.int 1), (.ref b1)])) rfl rfl (hb hby d8_42)
    have E_50 := E_a1.wr W49
    have F_51 := F_hashes_a1.other W49 (Or.inl ne_a1_b1)
    have F_52 := F_slots_a1.other W49 (Or.inl ne_a1_b1)
    have F_53 := F_shift_a1.other W49 (Or.inl ne_a1_b1)
    have F_54 := F_size_a1.other W49 (Or.inl ne_a1_b1)
    have K49 := K0.wr W49 (Or.inl (List.mem_of_getElem? (i := 1) rfl))
    have N49 := Fr.snoc X49 N0 g_b1
    have V_55 : Arv Z h49 b1 kb .int nn [(.int x0), (.int p1), (.int x2)] (.int 0) := Arv.set Ar48 aq48 aS48 aN48 aH48 aG48 rfl W49 1 rfl (Nat.le_of_ble_eq_true rfl)
    refine Goes.on (fun t k => st49 t k) ?_
    show Goes p e below QQ (T49.setTop (mkF m 43 #[rv a1, iv p1] []))
    refine G1 (XS.aloadN X49.here hx rfl (hb hby d8_43) rfl rfl) ?_
    refine G1 (XS.dup X49.here hx rfl (hb hby d8_44) rfl rfl) ?_
    show Goes p e below QQ (T49.setTop (mkF m 45 #[rv a1, iv p1] [(.ref a1), (.ref a1)]))
    obtain ⟨T56, X56, e56, st56⟩ := getF X49 hx hZ hown (host := "") (Or.inl (wI hw 31 rfl)) Via.refl e49 F_54 (g := (mkF m 45 #[rv a1, iv p1] [(.ref a1), (.ref a1)])) rfl rfl (hb hby d8_45)
    refine Goes.on (fun t k => st56 t k) ?_
    show Goes p e below QQ (T56.setTop (mkF m 48 #[rv a1, iv p1] [(.int 1), (.ref a1)]))
    refine G1 (XS.iconst X56.here hx rfl (hb hby d8_48)) ?_
    show Gs p e below QQ T56 m 49 #[rv a1, iv p1] [(.int 1), (.int 1), (.ref a1)]
    refine G1 (XS.iadd X56.here hx rfl (hb hby d8_49) rfl) ?_
    show Goes p e below QQ (T56.setTop (mkF m 50 #[rv a1, iv p1] [(.int ((1 : Int32) + (1 : Int32))), (.ref a1)]))
    rw [(by decide : ((1 : Int32) + (1 : Int32)) = (2 : Int32))]
    show Goes p e below QQ (T56.setTop (mkF m 50 #[rv a1, iv p1] [(.int 2), (.ref a1)]))
    obtain ⟨T57, h57, X57, e57, W57, st57⟩ := putF X56 hx hZ hown (host := "") (Or.inl (wI hw 31 rfl)) Via.refl e56 F_54 E_50 (Or.inl (wI hw 32 rfl)) (wI hw 1 rfl) (ty := .int) (by decide) rfl rfl (g := (mkF m 50 #[rv a1, iv p1] [(.int 2), (.ref a1)])) rfl rfl (hb hby d8_50)
    have E_58 := E_50.wr W57
    have F_59 := F_51.other W57 (Or.inr (slot_ne (Or.inl (wI hw 22 rfl)) (Or.inl (wI hw 32 rfl)) (by decide) (t := (.array .int)) (t' := .int) (by decide) (by decide)))
    have F_60 := F_52.other W57 (Or.inr (slot_ne (Or.inl (wI hw 30 rfl)) (Or.inl (wI hw 32 rfl)) (by decide) (t := (.array .int)) (t' := .int) (by decide) (by decide)))
    have F_61 := F_53.other W57 (Or.inr (slot_ne (Or.inl (wI hw 61 rfl)) (Or.inl (wI hw 32 rfl)) (by decide) (t := .int) (t' := .int) (by decide) (by decide)))
    have V_62 := V_55.other W57 (Ne.symm ne_a1_b1)
    have K57 := K49.wr W57 (Or.inl (List.mem_of_getElem? (i := 0) rfl))
    have N57 := Fr.snoc X57 N49 g_a1
    have F_63 : Fld Z h57 a1 "com/example/bindery/bindery/PartIndex" "size" "I" (.int 2) := F_54.same W57
    refine Goes.on (fun t k => st57 t k) ?_
    show Goes p e below QQ (T57.setTop (mkF m 53 #[rv a1, iv p1] []))
    refine G1 (XS.aloadN X57.here hx rfl (hb hby d8_53) rfl rfl) ?_
    show Goes p e below QQ (T57.setTop (mkF m 54 #[rv a1, iv p1] [(.ref a1)]))
    obtain ⟨T64, X64, e64, st64⟩ := getF X57 hx hZ hown (host := "") (Or.inl (wI hw 29 rfl)) Via.refl e57 F_60 (g := (mkF m 54 #[rv a1, iv p1] [(.ref a1)])) rfl rfl (hb hby d8_54)
    refine Goes.on (fun t k => st64 t k) ?_
    show Goes p e below QQ (T64.setTop (mkF m 57 #[rv a1, iv p1] [.null]))
    refine G1 (XS.ifnonnullNo X64.here hx rfl (hb hby d8_57) rfl) ?_
    show Gs p e below QQ T64 m 60 #[rv a1, iv p1] []
    refine G1 (XS.aloadN X64.here hx rfl (hb hby d8_60) rfl rfl) ?_
    show Goes p e below QQ (T64.setTop (mkF m 61 #[rv a1, iv p1] [(.ref a1)]))
    obtain ⟨T65, X65, e65, st65⟩ := getF X64 hx hZ hown (host := "") (Or.inl (wI hw 31 rfl)) Via.refl e64 F_63 (g := (mkF m 61 #[rv a1, iv p1] [(.ref a1)])) rfl rfl (hb hby d8_61)
    refine Goes.on (fun t k => st65 t k) ?_
    show Goes p e below QQ (T65.setTop (mkF m 64 #[rv a1, iv p1] [(.int 2)]))
    refine G1 (XS.bipush X65.here hx rfl (hb hby d8_64)) ?_
    show Gs p e below QQ T65 m 66 #[rv a1, iv p1] [(.int 8), (.int 2)]
    refine G1 (XS.icmpYes X65.here hx rfl (pc0 := 66) (pc' := 97) rfl (hb hby d8_66) rfl (flt (by decide)).2.2.2 (by decide) (by decide)) ?_
    show Gs p e below QQ T65 m 97 #[rv a1, iv p1] []
    refine G1 (XS.aloadN X65.here hx rfl (hb hby d8_97) rfl rfl) ?_
    show Goes p e below QQ (T65.setTop (mkF m 98 #[rv a1, iv p1] [(.ref a1)]))
    obtain ⟨T66, X66, e66, st66⟩ := getF X65 hx hZ hown (host := "") (Or.inl (wI hw 29 rfl)) Via.refl e65 F_60 (g := (mkF m 98 #[rv a1, iv p1] [(.ref a1)])) rfl rfl (hb hby d8_98)
    refine Goes.on (fun t k => st66 t k) ?_
    show Goes p e below QQ (T66.setTop (mkF m 101 #[rv a1, iv p1] [.null]))
    refine G1 (XS.ifnullYes X66.here hx rfl (pc0 := 101) (pc' := 114) rfl (hb hby d8_101) rfl (by decide) (by decide)) ?_
    show Goes p e below QQ (T66.setTop (mkF m 114 #[rv a1, iv p1] []))
    exact Goes.rV X66 hx hret hlk (hb hby d8_114) hQQ (by rw [e66]; exact ⟨b1, kb, nn, x0, p1, x2, rfl, N57, K57, g_b1, Or.inl rfl, ne_a1_b1, own_next nn (1 : Int32) (2 : Int32) (by decide) (own_strict nn (1 : Int32) hN heq), ⟨F_59, F_60, F_61, F_63⟩, V_62⟩) (by decide) (by decide)
theorem ef_rmA0_2 (m : MethodId) (x0 : Addr) (x1 : Int32) : entryFrame m #[(.ref x0), (.int x1)] 2 = mkF m 0 #[rv x0, iv x1] [] := by first | (simp [entryFrame, mkF, argsToLocals, Value.category]; done) | rfl
set_option maxRecDepth 65536 in
set_option maxHeartbeats 40000000 in
theorem rmA0_2 (l : Launch) (Z : State) (a0 : Array Value) (hw : ∀ d ∈ tables_1, d.before a0 Z = true) (ws : List Jvm.Cond) (a1 b1 : Addr) (p1 : Int32) (kb : ClassId) (nn sh x0 x1 x2 : Int32) (h0 : Heap) (n0 : Nat) (Z0 : n0 ≤ h0.size) (E_a1 : Exa Z h0 a1 "com/example/bindery/bindery/PartIndex") (F_hashes_a1 : Fld Z h0 a1 "com/example/bindery/bindery/PartIndex" "hashes" "[I" (.ref b1)) (F_slots_a1 : Fld Z h0 a1 "com/example/bindery/bindery/PartIndex" "slots" "[I" .null) (F_shift_a1 : Fld Z h0 a1 "com/example/bindery/bindery/PartIndex" "shift" "I" (.int sh)) (F_size_a1 : Fld Z h0 a1 "com/example/bindery/bindery/PartIndex" "size" "I" (.int 2)) (V_b1 : Arv Z h0 b1 kb .int nn [(.int x0), (.int x1), (.int x2)] (.int 0)) (g_a1 : n0 ≤ a1) (g_b1 : n0 ≤ b1) (ne_a1_b1 : a1 ≠ b1) (hN : (2 : Int32).toInt ≤ nn.toInt) :
    MetFree l (⟨"com/example/bindery/bindery/PartIndex", "add", "(I)V"⟩ : MethodName) (head1 (Jvm.Cond.code (⟨"com/example/bindery/bindery/PartIndex", "add", "(I)V"⟩ : MethodName) prog_150_method_9_code 2 none :: ws) ({ frames := 2, cells := 1, slots := 4, locals := 55 } : Room)) (fun a U => a = #[(.ref a1), (.int p1)] ∧ Z.Warmed39 U.vm ∧ U.heap = h0) (fun _ _ _ _ _ => True) (fun _ U o U' => ∃ v L, o = .returned v ∧ QA0 Z a1 b1 (3 : Int32) sh h0 n0 v U'.heap L ∧ FrameEnd U o U' L ({ frames := 2, cells := 1, slots := 4, locals := 55 } : Room).cells ({ frames := 2, cells := 1, slots := 4, locals := 55 } : Room).slots) := by
  refine own_enter pn_8 ?_
  intro p e s m below meth c s₁ QQ hQQ hx hby hml hown hnm hret hlk hZ X0 e0
  have hown : s.vm.findClass "com/example/bindery/bindery/PartIndex" = some m.cls := hown
  have hml : c.maxLocals = 2 := hml
  have hret : meth.sig.returnType = none := hret
  have N0 := Fr.nil n0
  have K0 := Keep.refl h0 [a1, b1]
  refine Goes.cast (ef_rmA0_2 m a1 p1) ?_
  show Goes p e below QQ (s₁.setTop (mkF m 0 #[rv a1, iv p1] []))
  refine G1 (XS.aloadN X0.here hx rfl (hb hby d8_0) rfl rfl) ?_
  show Goes p e below QQ (s₁.setTop (mkF m 1 #[rv a1, iv p1] [(.ref a1)]))
  obtain ⟨T1, X1, e1, st1⟩ := getF X0 hx hZ hown (host := "") (Or.inl (wI hw 31 rfl)) Via.refl e0 F_size_a1 (g := (mkF m 1 #[rv a1, iv p1] [(.ref a1)])) rfl rfl (hb hby d8_1)
  refine Goes.on (fun t k => st1 t k) ?_
  show Goes p e below QQ (T1.setTop (mkF m 4 #[rv a1, iv p1] [(.int 2)]))
  refine G1 (XS.aloadN X1.here hx rfl (hb hby d8_4) rfl rfl) ?_
  show Goes p e below QQ (T1.setTop (mkF m 5 #[rv a1, iv p1] [(.ref a1), (.int 2)]))
  obtain ⟨T2, X2, e2, st2⟩ := getF X1 hx hZ hown (host := "") (Or.inl (wI hw 21 rfl)) Via.refl e1 F_hashes_a1 (g := (mkF m 5 #[rv a1, iv p1] [(.ref a1), (.int 2)])) rfl rfl (hb hby d8_5)
  refine Goes.on (fun t k => st2 t k) ?_
  show Goes p e below QQ (T2.setTop (mkF m 8 #[rv a1, iv p1] [(.ref b1), (.int 2)]))
  obtain ⟨cl3, Ar3, aq3, aS3, aN3, aH3, aG3⟩ := id V_b1
  refine Goes.on (fun t k => X2.arraylength hx (by rw [e2]; exact Ar3.1) (State.isArrayOf_alike hZ.alike Ar3.2.1) (g := (mkF m 8 #[rv a1, iv p1] [(.ref b1), (.int 2)])) rfl rfl (hb hby d8_8) t k) ?_
  rw [len_of aS3 aN3]
  show Goes p e below QQ (T2.setTop (mkF m 9 #[rv a1, iv p1] [(.int nn), (.int 2)]))
  by_cases heq : (2 : Int32) = nn
  · subst heq
    show Goes p e below QQ (T2.setTop (mkF m 9 #[rv a1, iv p1] [(.int 2), (.int 2)]))
    refine G1 (XS.icmpNo X2.here hx rfl (hb hby d8_9) rfl (teq rfl).2) ?_
    show Gs p e below QQ T2 m 12 #[rv a1, iv p1] []
    refine G1 (XS.aloadN X2.here hx rfl (hb hby d8_12) rfl rfl) ?_
    refine G1 (XS.aloadN X2.here hx rfl (hb hby d8_13) rfl rfl) ?_
    show Goes p e below QQ (T2.setTop (mkF m 14 #[rv a1, iv p1] [(.ref a1), (.ref a1)]))
    obtain ⟨T4, X4, e4, st4⟩ := getF X2 hx hZ hown (host := "") (Or.inl (wI hw 21 rfl)) Via.refl e2 F_hashes_a1 (g := (mkF m 14 #[rv a1, iv p1] [(.ref a1), (.ref a1)])) rfl rfl (hb hby d8_14)
    refine Goes.on (fun t k => st4 t k) ?_
    show Goes p e below QQ (T4.setTop (mkF m 17 #[rv a1, iv p1] [(.ref b1), (.ref a1)]))
    refine G1 (XS.iconst X4.here hx rfl (hb hby d8_17)) ?_
    refine G1 (XS.aloadN X4.here hx rfl (hb hby d8_18) rfl rfl) ?_
    show Goes p e below QQ (T4.setTop (mkF m 19 #[rv a1, iv p1] [(.ref a1), (.int 2), (.ref b1), (.ref a1)]))
    obtain ⟨T5, X5, e5, st5⟩ := getF X4 hx hZ hown (host := "") (Or.inl (wI hw 31 rfl)) Via.refl e4 F_size_a1 (g := (mkF m 19 #[rv a1, iv p1] [(.ref a1), (.int 2), (.ref b1), (.ref a1)])) rfl rfl (hb hby d8_19)
    refine Goes.on (fun t k => st5 t k) ?_
    show Goes p e below QQ (T5.setTop (mkF m 22 #[rv a1, iv p1] [(.int 2), (.int 2), (.ref b1), (.ref a1)]))
    refine G1 (XS.imul X5.here hx rfl (hb hby d8_22) rfl) ?_
    show Goes p e below QQ (T5.setTop (mkF m 23 #[rv a1, iv p1] [(.int ((2 : Int32) * (2 : Int32))), (.ref b1), (.ref a1)]))
    rw [(by decide : ((2 : Int32) * (2 : Int32)) = (4 : Int32))]
    show Goes p e below QQ (T5.setTop (mkF m 23 #[rv a1, iv p1] [(.int 4), (.ref b1), (.ref a1)]))
    refine G1 (XS.iconst X5.here hx rfl (hb hby d8_23)) ?_
    show Goes p e below QQ (T5.setTop (mkF m 24 #[rv a1, iv p1] [(.int 4), (.int 4), (.ref b1), (.ref a1)]))
    obtain ⟨_, _, ⟨T6, L6, k6, n6⟩, -, X6, ⟨Lc6, hQ6, l6, y6, z6⟩, st6⟩ := Jvm.LawKit.callS X5 hx (y := (⟨"java/lang/Math", "max", "(II)I"⟩ : MethodName)) hown (mvT hZ (wI hw 12 rfl)) (mvT hZ (wI hw 13 rfl)) (mvT hZ (wI hw 14 rfl)) (mvT hZ (wI hw 15 rfl)) (by decide) (backOf (W := 2) (rmMx l Z a0 hw [] (4 : Int32) (4 : Int32) h0 n0 (Nat.le_trans Z0 K0.1) ) hZ (wI hw 15 rfl) (wI hw 14 rfl) (by decide) (by decide)) (g := (mkF m 24 #[rv a1, iv p1] [(.int 4), (.int 4), (.ref b1), (.ref a1)])) rfl (by rw [hml]; rfl) (argsL := [(.int 4), (.int 4)]) (rest := [(.ref b1), (.ref a1)]) (lenOf pd_0 rfl) rfl (by show 2 * 0 + _ ≤ _; exact Nat.le_of_eq rfl) (hb hby d8_24) (fun _ _ => ⟨rfl, e5, (by decide : 0 + 0 ≤ _), (by decide : 0 + 0 ≤ _)⟩)
    dsimp only [Pt.U, Pt.locs, Pt.cells, Pt.slots] at X6 l6 y6 z6 st6 hQ6
    have l6 := l6.symm; have y6 := y6.symm; have z6 := z6.symm; subst l6 y6 z6
    have X6 : Stand p l e ({ frames := 2, cells := 1, slots := 4, locals := 55 } : Room) s m #[(.ref a1), (.int p1)] below meth c T6 _ 0 0 := X6
    obtain ⟨rfl, M6, e6⟩ := hQ6
    have N6 := Fr.app N0 M6
    refine Goes.on (fun t k => st6 _ k) ?_
    show Goes p e below QQ (T6.setTop (mkF m 27 #[rv a1, iv p1] [(.int (maxF (4 : Int32) (4 : Int32))), (.ref b1), (.ref a1)]))
    rw [(by decide : (maxF (4 : Int32) (4 : Int32)) = (4 : Int32))]
    show Goes p e below QQ (T6.setTop (mkF m 27 #[rv a1, iv p1] [(.int 4), (.ref b1), (.ref a1)]))
    obtain ⟨_, _, ⟨T7, L7, k7, n7⟩, -, X7, ⟨Lc7, hQ7, l7, y7, z7⟩, st7⟩ := Jvm.LawKit.callS X6 hx (y := (⟨"java/util/Arrays", "copyOf", "([II)[I"⟩ : MethodName)) hown (mvT hZ (wI hw 42 rfl)) (mvT hZ (wI hw 43 rfl)) (mvT hZ (wI hw 44 rfl)) (mvT hZ (wI hw 45 rfl)) (by decide) (backOf (W := 1) (rmCp2 l Z a0 hw [] b1 kb x0 x1 x2 h0 n0 (Nat.le_trans Z0 K0.1) V_b1) hZ (wI hw 45 rfl) (wI hw 44 rfl) (by decide) (by decide)) (g := (mkF m 27 #[rv a1, iv p1] [(.int 4), (.ref b1), (.ref a1)])) rfl (by rw [hml]; rfl) (argsL := [(.ref b1), (.int 4)]) (rest := [(.ref a1)]) (lenOf pd_3 rfl) rfl (by show 2 * 0 + _ ≤ _; exact Nat.le_of_eq rfl) (hb hby d8_27) (fun _ _ => ⟨rfl, e6, (by decide : 0 + 1 ≤ _), (by decide : 0 + 4 ≤ _)⟩)
    dsimp only [Pt.U, Pt.locs, Pt.cells, Pt.slots] at X7 l7 y7 z7 st7 hQ7
    have l7 := l7.symm; have y7 := y7.symm; have z7 := z7.symm; subst l7 y7 z7
    have X7 : Stand p l e ({ frames := 2, cells := 1, slots := 4, locals := 55 } : Room) s m #[(.ref a1), (.int p1)] below meth c T7 _ 1 4 := X7
    obtain ⟨b9, k9, rfl, M7, Kc, szc, V9⟩ := hQ7
    have sz_b9 : h0.size ≤ b9 := Nat.le_trans K0.1 szc
    have g_b9 : n0 ≤ b9 := Nat.le_trans Z0 sz_b9
    have ne_a1_b9 : a1 ≠ b9 := Nat.ne_of_lt (Nat.lt_of_lt_of_le E_a1.lt szc)
    have ne_b1_b9 : b1 ≠ b9 := Nat.ne_of_lt (Nat.lt_of_lt_of_le V_b1.lt szc)
    have N7 := Fr.app N6 M7
    refine Goes.on (fun t k => st7 _ k) ?_
    have E_8 := E_a1.keep Kc
    have F_9 := F_hashes_a1.keep Kc nin0
    have F_10 := F_slots_a1.keep Kc nin0
    have F_11 := F_shift_a1.keep Kc nin0
    have F_12 := F_size_a1.keep Kc nin0
    have V_13 := V_b1.keep Kc nin0
    have K14 := K0.trans Kc all0
    show Goes p e below QQ (T7.setTop (mkF m 30 #[rv a1, iv p1] [(.ref b9), (.ref a1)]))
    obtain ⟨T15, h15, X15, e15, W15, st15⟩ := putF X7 hx hZ hown (host := "") (Or.inl (wI hw 21 rfl)) Via.refl rfl F_9 E_8 (Or.inl (wI hw 22 rfl)) (wI hw 1 rfl) (ty := (.array .int)) (by decide) rfl rfl (g := (mkF m 30 #[rv a1, iv p1] [(.ref b9), (.ref a1)])) rfl rfl (hb hby d8_30)
    have E_16 := E_8.wr W15
    have F_17 := F_10.other W15 (Or.inr (slot_ne (Or.inl (wI hw 30 rfl)) (Or.inl (wI hw 22 rfl)) (by decide) (t := (.array .int)) (t' := (.array .int)) (by decide) (by decide)))
    have F_18 := F_11.other W15 (Or.inr (slot_ne (Or.inl (wI hw 61 rfl)) (Or.inl (wI hw 22 rfl)) (by decide) (t := .int) (t' := (.array .int)) (by decide) (by decide)))
    have F_19 := F_12.other W15 (Or.inr (slot_ne (Or.inl (wI hw 32 rfl)) (Or.inl (wI hw 22 rfl)) (by decide) (t := .int) (t' := (.array .int)) (by decide) (by decide)))
    have V_20 := V_13.other W15 (Ne.symm ne_a1_b1)
    have V9_21 := V9.other W15 (Ne.symm ne_a1_b9)
    have K15 := K14.wr W15 (Or.inl (List.mem_of_getElem? (i := 0) rfl))
    have N15 := Fr.snoc X15 N7 g_a1
    have F_22 : Fld Z h15 a1 "com/example/bindery/bindery/PartIndex" "hashes" "[I" (.ref b9) := F_9.same W15
    refine Goes.on (fun t k => st15 t k) ?_
    show Goes p e below QQ (T15.setTop (mkF m 33 #[rv a1, iv p1] []))
    refine G1 (XS.aloadN X15.here hx rfl (hb hby d8_33) rfl rfl) ?_
    show Goes p e below QQ (T15.setTop (mkF m 34 #[rv a1, iv p1] [(.ref a1)]))
    obtain ⟨T23, X23, e23, st23⟩ := getF X15 hx hZ hown (host := "") (Or.inl (wI hw 21 rfl)) Via.refl e15 F_22 (g := (mkF m 34 #[rv a1, iv p1] [(.ref a1)])) rfl rfl (hb hby d8_34)
    refine Goes.on (fun t k => st23 t k) ?_
    show Goes p e below QQ (T23.setTop (mkF m 37 #[rv a1, iv p1] [(.ref b9)]))
    refine G1 (XS.aloadN X23.here hx rfl (hb hby d8_37) rfl rfl) ?_
    show Goes p e below QQ (T23.setTop (mkF m 38 #[rv a1, iv p1] [(.ref a1), (.ref b9)]))
    obtain ⟨T24, X24, e24, st24⟩ := getF X23 hx hZ hown (host := "") (Or.inl (wI hw 31 rfl)) Via.refl e23 F_19 (g := (mkF m 38 #[rv a1, iv p1] [(.ref a1), (.ref b9)])) rfl rfl (hb hby d8_38)
    refine Goes.on (fun t k => st24 t k) ?_
    show Goes p e below QQ (T24.setTop (mkF m 41 #[rv a1, iv p1] [(.int 2), (.ref b9)]))
    refine G1 (XS.iloadN X24.here hx rfl (hb hby d8_41) rfl) ?_
    show Goes p e below QQ (T24.setTop (mkF m 42 #[rv a1, iv p1] [(.int p1), (.int 2), (.ref b9)]))
    obtain ⟨cl25, Ar25, aq25, aS25, aN25, aH25, aG25⟩ := id V9_21
    have hin25 := inb_of (j := (2 : Int32)) aS25 ⟨by decide, by decide⟩
    obtain ⟨T26, h26, X26, e26, W26, st26⟩ := stI X24 hx hZ e24 Ar25 (j := (2 : Int32)) hin25 (g := (mkF m 42 #[rv a1, iv p1] [(.int p1), (.int 2), (.ref b9)])) rfl rfl (hb hby d8_42)
    have E_27 := E_16.wr W26
    have F_28 := F_22.other W26 (Or.inl ne_a1_b9)
    have F_29 := F_17.other W26 (Or.inl ne_a1_b9)
    have F_30 := F_18.other W26 (Or.inl ne_a1_b9)
    have F_31 := F_19.other W26 (Or.inl ne_a1_b9)
    have V_32 := V_20.other W26 ne_b1_b9
    have K26 := K15.wr W26 (Or.inr sz_b9)
    have N26 := Fr.snoc X26 N15 g_b9
    have V_33 : Arv Z h26 b9 k9 .int (4 : Int32) [(.int x0), (.int x1), (.int p1), (.int 0)] (.int 0) := Arv.set Ar25 aq25 aS25 aN25 aH25 aG25 rfl W26 2 rfl (Nat.le_of_ble_eq_true rfl)
    refine Goes.on (fun t k => st26 t k) ?_
    show Goes p e below QQ (T26.setTop (mkF m 43 #[rv a1, iv p1] []))
    refine G1 (XS.aloadN X26.here hx rfl (hb hby d8_43) rfl rfl) ?_
    refine G1 (XS.dup X26.here hx rfl (hb hby d8_44) rfl rfl) ?_
    show Goes p e below QQ (T26.setTop (mkF m 45 #[rv a1, iv p1] [(.ref a1), (.ref a1)]))
    obtain ⟨T34, X34, e34, st34⟩ := getF X26 hx hZ hown (host := "") (Or.inl (wI hw 31 rfl)) Via.refl e26 F_31 (g := (mkF m 45 #[rv a1, iv p1] [(.ref a1), (.ref a1)])) rfl rfl (hb hby d8_45)
    refine Goes.on (fun t k => st34 t k) ?_
    show Goes p e below QQ (T34.setTop (mkF m 48 #[rv a1, iv p1] [(.int 2), (.ref a1)]))
    refine G1 (XS.iconst X34.here hx rfl (hb hby d8_48)) ?_
    show Gs p e below QQ T34 m 49 #[rv a1, iv p1] [(.int 1), (.int 2), (.ref a1)]
    refine G1 (XS.iadd X34.here hx rfl (hb hby d8_49) rfl) ?_
    show Goes p e below QQ (T34.setTop (mkF m 50 #[rv a1, iv p1] [(.int ((2 : Int32) + (1 : Int32))), (.ref a1)]))
    rw [(by decide : ((2 : Int32) + (1 : Int32)) = (3 : Int32))]
    show Goes p e below QQ (T34.setTop (mkF m 50 #[rv a1, iv p1] [(.int 3), (.ref a1)]))
    obtain ⟨T35, h35, X35, e35, W35, st35⟩ := putF X34 hx hZ hown (host := "") (Or.inl (wI hw 31 rfl)) Via.refl e34 F_31 E_27 (Or.inl (wI hw 32 rfl)) (wI hw 1 rfl) (ty := .int) (by decide) rfl rfl (g := (mkF m 50 #[rv a1, iv p1] [(.int 3), (.ref a1)])) rfl rfl (hb hby d8_50)
    have E_36 := E_27.wr W35
    have F_37 := F_28.other W35 (Or.inr (slot_ne (Or.inl (wI hw 22 rfl)) (Or.inl (wI hw 32 rfl)) (by decide) (t := (.array .int)) (t' := .int) (by decide) (by decide)))
    have F_38 := F_29.other W35 (Or.inr (slot_ne (Or.inl (wI hw 30 rfl)) (Or.inl (wI hw 32 rfl)) (by decide) (t := (.array .int)) (t' := .int) (by decide) (by decide)))
    have F_39 := F_30.other W35 (Or.inr (slot_ne (Or.inl (wI hw 61 rfl)) (Or.inl (wI hw 32 rfl)) (by decide) (t := .int) (t' := .int) (by decide) (by decide)))
    have V_40 := V_32.other W35 (Ne.symm ne_a1_b1)
    have V_41 := V_33.other W35 (Ne.symm ne_a1_b9)
    have K35 := K26.wr W35 (Or.inl (List.mem_of_getElem? (i := 0) rfl))
    have N35 := Fr.snoc X35 N26 g_a1
    have F_42 : Fld Z h35 a1 "com/example/bindery/bindery/PartIndex" "size" "I" (.int 3) := F_31.same W35
    refine Goes.on (fun t k => st35 t k) ?_
    show Goes p e below QQ (T35.setTop (mkF m 53 #[rv a1, iv p1] []))
    refine G1 (XS.aloadN X35.here hx rfl (hb hby d8_53) rfl rfl) ?_
    show Goes p e below QQ (T35.setTop (mkF m 54 #[rv a1, iv p1] [(.ref a1)]))
    obtain ⟨T43, X43, e43, st43⟩ := getF X35 hx hZ hown (host := "") (Or.inl (wI hw 29 rfl)) Via.refl e35 F_38 (g := (mkF m 54 #[rv a1, iv p1] [(.ref a1)])) rfl rfl (hb hby d8_54)
    refine Goes.on (fun t k => st43 t k) ?_
    show Goes p e below QQ (T43.setTop (mkF m 57 #[rv a1, iv p1] [.null]))
    refine G1 (XS.ifnonnullNo X43.here hx rfl (hb hby d8_57) rfl) ?_
    show Gs p e below QQ T43 m 60 #[rv a1, iv p1] []
    refine G1 (XS.aloadN X43.here hx rfl (hb hby d8_60) rfl rfl) ?_
    show Goes p e below QQ (T43.setTop (mkF m 61 #[rv a1, iv p1] [(.ref a1)]))
    obtain ⟨T44, X44, e44, st44⟩ := getF X43 hx hZ hown (host := "") (Or.inl (wI hw 31 rfl)) Via.refl e43 F_42 (g := (mkF m 61 #[rv a1, iv p1] [(.ref a1)])) rfl rfl (hb hby d8_61)
    refine Goes.on (fun t k => st44 t k) ?_
    show Goes p e below QQ (T44.setTop (mkF m 64 #[rv a1, iv p1] [(.int 3)]))
    refine G1 (XS.bipush X44.here hx rfl (hb hby d8_64)) ?_
    show Gs p e below QQ T44 m 66 #[rv a1, iv p1] [(.int 8), (.int 3)]
    refine G1 (XS.icmpYes X44.here hx rfl (pc0 := 66) (pc' := 97) rfl (hb hby d8_66) rfl (flt (by decide)).2.2.2 (by decide) (by decide)) ?_
    show Gs p e below QQ T44 m 97 #[rv a1, iv p1] []
    refine G1 (XS.aloadN X44.here hx rfl (hb hby d8_97) rfl rfl) ?_
    show Goes p e below QQ (T44.setTop (mkF m 98 #[rv a1, iv p1] [(.ref a1)]))
    obtain ⟨T45, X45, e45, st45⟩ := getF X44 hx hZ hown (host := "") (Or.inl (wI hw 29 rfl)) Via.refl e44 F_38 (g := (mkF m 98 #[rv a1, iv p1] [(.ref a1)])) rfl rfl (hb hby d8_98)
    refine Goes.on (fun t k => st45 t k) ?_
    show Goes p e below QQ (T45.setTop (mkF m 101 #[rv a1, iv p1] [.null]))
    refine G1 (XS.ifnullYes X45.here hx rfl (pc0 := 101) (pc' := 114) rfl (hb hby d8_101) rfl (by decide) (by decide)) ?_
    show Goes p e below QQ (T45.setTop (mkF m 114 #[rv a1, iv p1] []))
    have Vz : Arv Z h35 b9 k9 .int (4 : Int32) [(.int x0), (.int x1), (.int p1)] (.int (0 : Int32)) := own_drop4 V_41
    exact Goes.rV X45 hx hret hlk (hb hby d8_114) hQQ (by rw [e45]; exact ⟨b9, k9, (4 : Int32), x0, x1, p1, rfl, N35, K35, g_b9, Or.inr sz_b9, ne_a1_b9, (by decide), ⟨F_37, F_38, F_39, F_42⟩, Vz⟩) (by decide) (by decide)
  · refine G1 (XS.icmpYes X2.here hx rfl (pc0 := 9) (pc' := 33) rfl (hb hby d8_9) rfl (feq heq).2 (by decide) (by decide)) ?_
    show Gs p e below QQ T2 m 33 #[rv a1, iv p1] []
    refine G1 (XS.aloadN X2.here hx rfl (hb hby d8_33) rfl rfl) ?_
    show Goes p e below QQ (T2.setTop (mkF m 34 #[rv a1, iv p1] [(.ref a1)]))
    obtain ⟨T46, X46, e46, st46⟩ := getF X2 hx hZ hown (host := "") (Or.inl (wI hw 21 rfl)) Via.refl e2 F_hashes_a1 (g := (mkF m 34 #[rv a1, iv p1] [(.ref a1)])) rfl rfl (hb hby d8_34)
    refine Goes.on (fun t k => st46 t k) ?_
    show Goes p e below QQ (T46.setTop (mkF m 37 #[rv a1, iv p1] [(.ref b1)]))
    refine G1 (XS.aloadN X46.here hx rfl (hb hby d8_37) rfl rfl) ?_
    show Goes p e below QQ (T46.setTop (mkF m 38 #[rv a1, iv p1] [(.ref a1), (.ref b1)]))
    obtain ⟨T47, X47, e47, st47⟩ := getF X46 hx hZ hown (host := "") (Or.inl (wI hw 31 rfl)) Via.refl e46 F_size_a1 (g := (mkF m 38 #[rv a1, iv p1] [(.ref a1), (.ref b1)])) rfl rfl (hb hby d8_38)
    refine Goes.on (fun t k => st47 t k) ?_
    show Goes p e below QQ (T47.setTop (mkF m 41 #[rv a1, iv p1] [(.int 2), (.ref b1)]))
    refine G1 (XS.iloadN X47.here hx rfl (hb hby d8_41) rfl) ?_
    show Goes p e below QQ (T47.setTop (mkF m 42 #[rv a1, iv p1] [(.int p1), (.int 2), (.ref b1)]))
    obtain ⟨cl48, Ar48, aq48, aS48, aN48, aH48, aG48⟩ := id V_b1
    have hin48 := inb_of (j := (2 : Int32)) aS48 ⟨by decide, own_strict nn (2 : Int32) hN heq⟩
    obtain ⟨T49, h49, X49, e49, W49, st49⟩ := stI X47 hx hZ e47 Ar48 (j := (2 : Int32)) hin48 (g := (mkF m 42 #[rv a1, iv p1] [(.int p1), (.int 2), (.ref b1)])) rfl rfl (hb hby d8_42)
    have E_50 := E_a1.wr W49
    have F_51 := F_hashes_a1.other W49 (Or.inl ne_a1_b1)
    have F_52 := F_slots_a1.other W49 (Or.inl ne_a1_b1)
    have F_53 := F_shift_a1.other W49 (Or.inl ne_a1_b1)
    have F_54 := F_size_a1.other W49 (Or.inl ne_a1_b1)
    have K49 := K0.wr W49 (Or.inl (List.mem_of_getElem? (i := 1) rfl))
    have N49 := Fr.snoc X49 N0 g_b1
    have V_55 : Arv Z h49 b1 kb .int nn [(.int x0), (.int x1), (.int p1)] (.int 0) := Arv.set Ar48 aq48 aS48 aN48 aH48 aG48 rfl W49 2 rfl (Nat.le_of_ble_eq_true rfl)
    refine Goes.on (fun t k => st49 t k) ?_
    show Goes p e below QQ (T49.setTop (mkF m 43 #[rv a1, iv p1] []))
    refine G1 (XS.aloadN X49.here hx rfl (hb hby d8_43) rfl rfl) ?_
    refine G1 (XS.dup X49.here hx rfl (hb hby d8_44) rfl rfl) ?_
    show Goes p e below QQ (T49.setTop (mkF m 45 #[rv a1, iv p1] [(.ref a1), (.ref a1)]))
    obtain ⟨T56, X56, e56, st56⟩ := getF X49 hx hZ hown (host := "") (Or.inl (wI hw 31 rfl)) Via.refl e49 F_54 (g := (mkF m 45 #[rv a1, iv p1] [(.ref a1), (.ref a1)])) rfl rfl (hb hby d8_45)
    refine Goes.on (fun t k => st56 t k) ?_
    show Goes p e below QQ (T56.setTop (mkF m 48 #[rv a1, iv p1] [(.int 2), (.ref a1)]))
    refine G1 (XS.iconst X56.here hx rfl (hb hby d8_48)) ?_
    show Gs p e below QQ T56 m 49 #[rv a1, iv p1] [(.int 1), (.int 2), (.ref a1)]
    refine G1 (XS.iadd X56.here hx rfl (hb hby d8_49) rfl) ?_
    show Goes p e below QQ (T56.setTop (mkF m 50 #[rv a1, iv p1] [(.int ((2 : Int32) + (1 : Int32))), (.ref a1)]))
    rw [(by decide : ((2 : Int32) + (1 : Int32)) = (3 : Int32))]
    show Goes p e below QQ (T56.setTop (mkF m 50 #[rv a1, iv p1] [(.int 3), (.ref a1)]))
    obtain ⟨T57, h57, X57, e57, W57, st57⟩ := putF X56 hx hZ hown (host := "") (Or.inl (wI hw 31 rfl)) Via.refl e56 F_54 E_50 (Or.inl (wI hw 32 rfl)) (wI hw 1 rfl) (ty := .int) (by decide) rfl rfl (g := (mkF m 50 #[rv a1, iv p1] [(.int 3), (.ref a1)])) rfl rfl (hb hby d8_50)
    have E_58 := E_50.wr W57
    have F_59 := F_51.other W57 (Or.inr (slot_ne (Or.inl (wI hw 22 rfl)) (Or.inl (wI hw 32 rfl)) (by decide) (t := (.array .int)) (t' := .int) (by decide) (by decide)))
    have F_60 := F_52.other W57 (Or.inr (slot_ne (Or.inl (wI hw 30 rfl)) (Or.inl (wI hw 32 rfl)) (by decide) (t := (.array .int)) (t' := .int) (by decide) (by decide)))
    have F_61 := F_53.other W57 (Or.inr (slot_ne (Or.inl (wI hw 61 rfl)) (Or.inl (wI hw 32 rfl)) (by decide) (t := .int) (t' := .int) (by decide) (by decide)))
    have V_62 := V_55.other W57 (Ne.symm ne_a1_b1)
    have K57 := K49.wr W57 (Or.inl (List.mem_of_getElem? (i := 0) rfl))
    have N57 := Fr.snoc X57 N49 g_a1
    have F_63 : Fld Z h57 a1 "com/example/bindery/bindery/PartIndex" "size" "I" (.int 3) := F_54.same W57
    refine Goes.on (fun t k => st57 t k) ?_
    show Goes p e below QQ (T57.setTop (mkF m 53 #[rv a1, iv p1] []))
    refine G1 (XS.aloadN X57.here hx rfl (hb hby d8_53) rfl rfl) ?_
    show Goes p e below QQ (T57.setTop (mkF m 54 #[rv a1, iv p1] [(.ref a1)]))
    obtain ⟨T64, X64, e64, st64⟩ := getF X57 hx hZ hown (host := "") (Or.inl (wI hw 29 rfl)) Via.refl e57 F_60 (g := (mkF m 54 #[rv a1, iv p1] [(.ref a1)])) rfl rfl (hb hby d8_54)
    refine Goes.on (fun t k => st64 t k) ?_
    show Goes p e below QQ (T64.setTop (mkF m 57 #[rv a1, iv p1] [.null]))
    refine G1 (XS.ifnonnullNo X64.here hx rfl (hb hby d8_57) rfl) ?_
    show Gs p e below QQ T64 m 60 #[rv a1, iv p1] []
    refine G1 (XS.aloadN X64.here hx rfl (hb hby d8_60) rfl rfl) ?_
    show Goes p e below QQ (T64.setTop (mkF m 61 #[rv a1, iv p1] [(.ref a1)]))
    obtain ⟨T65, X65, e65, st65⟩ := getF X64 hx hZ hown (host := "") (Or.inl (wI hw 31 rfl)) Via.refl e64 F_63 (g := (mkF m 61 #[rv a1, iv p1] [(.ref a1)])) rfl rfl (hb hby d8_61)
    refine Goes.on (fun t k => st65 t k) ?_
    show Goes p e below QQ (T65.setTop (mkF m 64 #[rv a1, iv p1] [(.int 3)]))
    refine G1 (XS.bipush X65.here hx rfl (hb hby d8_64)) ?_
    show Gs p e below QQ T65 m 66 #[rv a1, iv p1] [(.int 8), (.int 3)]
    refine G1 (XS.icmpYes X65.here hx rfl (pc0 := 66) (pc' := 97) rfl (hb hby d8_66) rfl (flt (by decide)).2.2.2 (by decide) (by decide)) ?_
    show Gs p e below QQ T65 m 97 #[rv a1, iv p1] []
    refine G1 (XS.aloadN X65.here hx rfl (hb hby d8_97) rfl rfl) ?_
    show Goes p e below QQ (T65.setTop (mkF m 98 #[rv a1, iv p1] [(.ref a1)]))
    obtain ⟨T66, X66, e66, st66⟩ := getF X65 hx hZ hown (host := "") (Or.inl (wI hw 29 rfl)) Via.refl e65 F_60 (g := (mkF m 98 #[rv a1, iv p1] [(.ref a1)])) rfl rfl (hb hby d8_98)
    refine Goes.on (fun t k => st66 t k) ?_
    show Goes p e below QQ (T66.setTop (mkF m 101 #[rv a1, iv p1] [.null]))
    refine G1 (XS.ifnullYes X66.here hx rfl (pc0 := 101) (pc' := 114) rfl (hb hby d8_101) rfl (by decide) (by decide)) ?_
    show Goes p e below QQ (T66.setTop (mkF m 114 #[rv a1, iv p1] []))
    exact Goes.rV X66 hx hret hlk (hb hby d8_114) hQQ (by rw [e66]; exact ⟨b1, kb, nn, x0, x1, p1, rfl, N57, K57, g_b1, Or.inl rfl, ne_a1_b1, own_next nn (2 : Int32) (3 : Int32) (by decide) (own_strict nn (2 : Int32) hN heq), ⟨F_59, F_60, F_61, F_63⟩, V_62⟩) (by decide) (by decide)
def gi (S : List Value) (j : Int32) : Int32 := match S.getD j.toNatClampNeg (.int (0 : Int32)) with | .int y => y | _ => 0
def IntS (S : List Value) : Prop := S.length = 32 ∧ ∀ j : Int32, S.getD j.toNatClampNeg (.int (0 : Int32)) = .int (gi S j)
def prF (S : List Value) (q : Int32) : Int32 := if gi S q = (0 : Int32) then q else (if gi S (afF q) = (0 : Int32) then afF q else afF (afF q))
theorem own_st (y : Int32) : ¬ stF y < 0 ∧ stF y < (32 : Int32) := by
  have q := c_iushr (y * (-1640531527 : Int32)) 27 27 (by decide) (by decide)
  have r := rng32 (y * (-1640531527 : Int32))
  unfold stF
  rw [Int32.lt_iff_toInt_lt, Int32.lt_iff_toInt_lt, (by decide : (0 : Int32).toInt = 0), (by decide : (32 : Int32).toInt = 32)]
  omega
theorem own_m31 (y : Int32) : ¬ (y &&& (31 : Int32)) < 0 ∧ (y &&& (31 : Int32)) < (32 : Int32) := by
  have q := c_mask y 31 5 (by decide) (by decide)
  rw [Int32.lt_iff_toInt_lt, Int32.lt_iff_toInt_lt, (by decide : (0 : Int32).toInt = 0), (by decide : (32 : Int32).toInt = 32)]
  omega
theorem own_af (y : Int32) : ¬ afF y < 0 ∧ afF y < (32 : Int32) := own_m31 (y + (1 : Int32))
theorem own_nat {y : Int32} (h : ¬ y < 0 ∧ y < (32 : Int32)) : y.toNatClampNeg < 32 ∧ (y.toNatClampNeg : Int) = y.toInt := by
  rw [Int32.lt_iff_toInt_lt, Int32.lt_iff_toInt_lt, (by decide : (0 : Int32).toInt = 0), (by decide : (32 : Int32).toInt = 32)] at h
  have e : y.toNatClampNeg = y.toInt.toNat := rfl
  omega
theorem own_ltS {y : Int32} {S : List Value} (h : ¬ y < 0 ∧ y < (32 : Int32)) (HS : IntS S) : y.toNatClampNeg < S.length := by
  rw [HS.1]; exact (own_nat h).1
theorem own_neq (k nn : Int32) (h : k < nn) : ¬ k = nn := by
  intro z
  subst z
  rw [Int32.lt_iff_toInt_lt] at h
  omega
theorem d12_0 : decode prog_150_method_12_code 0 = .ok (.aload_n 0, 1) := by decide +kernel
theorem d12_1 : decode prog_150_method_12_code 1 = .ok (.aload_n 0, 1) := by decide +kernel
theorem d12_2 : decode prog_150_method_12_code 2 = .ok (.getfield 13, 3) := by decide +kernel
theorem d12_5 : decode prog_150_method_12_code 5 = .ok (.iload_n 1, 1) := by decide +kernel
theorem d12_6 : decode prog_150_method_12_code 6 = .ok (.iaload, 1) := by decide +kernel
theorem d12_7 : decode prog_150_method_12_code 7 = .ok (.invokevirtual 42, 3) := by decide +kernel
theorem d12_10 : decode prog_150_method_12_code 10 = .ok (.istore_n 2, 1) := by decide +kernel
theorem d12_11 : decode prog_150_method_12_code 11 = .ok (.aload_n 0, 1) := by decide +kernel
theorem d12_12 : decode prog_150_method_12_code 12 = .ok (.getfield 35, 3) := by decide +kernel
theorem d12_15 : decode prog_150_method_12_code 15 = .ok (.iload_n 2, 1) := by decide +kernel
theorem d12_16 : decode prog_150_method_12_code 16 = .ok (.iaload, 1) := by decide +kernel
theorem d12_17 : decode prog_150_method_12_code 17 = .ok (.ifCond .eq 12, 3) := by decide +kernel
theorem d12_20 : decode prog_150_method_12_code 20 = .ok (.aload_n 0, 1) := by decide +kernel
theorem d12_21 : decode prog_150_method_12_code 21 = .ok (.iload_n 2, 1) := by decide +kernel
theorem d12_22 : decode prog_150_method_12_code 22 = .ok (.invokevirtual 52, 3) := by decide +kernel
theorem d12_25 : decode prog_150_method_12_code 25 = .ok (.istore_n 2, 1) := by decide +kernel
theorem d12_26 : decode prog_150_method_12_code 26 = .ok (.goto (-15), 3) := by decide +kernel
theorem d12_29 : decode prog_150_method_12_code 29 = .ok (.aload_n 0, 1) := by decide +kernel
theorem d12_30 : decode prog_150_method_12_code 30 = .ok (.getfield 35, 3) := by decide +kernel
theorem d12_33 : decode prog_150_method_12_code 33 = .ok (.iload_n 2, 1) := by decide +kernel
theorem d12_34 : decode prog_150_method_12_code 34 = .ok (.iload_n 1, 1) := by decide +kernel
theorem d12_35 : decode prog_150_method_12_code 35 = .ok (.iconst 1, 1) := by decide +kernel
theorem d12_36 : decode prog_150_method_12_code 36 = .ok (.iadd, 1) := by decide +kernel
theorem d12_37 : decode prog_150_method_12_code 37 = .ok (.iastore, 1) := by decide +kernel
theorem d12_38 : decode prog_150_method_12_code 38 = .ok (.return_, 1) := by decide +kernel
theorem pn_12 : plainFor (⟨"com/example/bindery/bindery/PartIndex", "place", "(I)V"⟩ : MethodName) = true := plainFor_of_name (show plainName "com/example/bindery/bindery/PartIndex" = true by first | (simp [plainName, overriddenIn]; done) | decide +kernel)
theorem ef_rmPl_0 (m : MethodId) (x0 : Addr) (x1 : Int32) : entryFrame m #[(.ref x0), (.int x1)] 3 = mkF m 0 #[rv x0, iv x1, .unset] [] := by first | (simp [entryFrame, mkF, argsToLocals, Value.category]; done) | rfl
set_option maxRecDepth 65536 in
set_option maxHeartbeats 40000000 in
theorem rmPl_0 (l : Launch) (Z : State) (a0 : Array Value) (hw : ∀ d ∈ tables_1, d.before a0 Z = true) (ws : List Jvm.Cond) (a1 b1 d1 : Addr) (kb kd : ClassId) (nn x0 x1 x2 : Int32) (S : List Value) (h0 : Heap) (n0 : Nat) (Z0 : n0 ≤ h0.size) (E_a1 : Exa Z h0 a1 "com/example/bindery/bindery/PartIndex") (F_hashes_a1 : Fld Z h0 a1 "com/example/bindery/bindery/PartIndex" "hashes" "[I" (.ref b1)) (F_slots_a1 : Fld Z h0 a1 "com/example/bindery/bindery/PartIndex" "slots" "[I" (.ref d1)) (F_shift_a1 : Fld Z h0 a1 "com/example/bindery/bindery/PartIndex" "shift" "I" (.int 27)) (F_size_a1 : Fld Z h0 a1 "com/example/bindery/bindery/PartIndex" "size" "I" (.int 1)) (V_b1 : Arv Z h0 b1 kb .int nn [(.int x0), (.int x1), (.int x2)] (.int 0)) (V_d1 : Arv Z h0 d1 kd .int (32 : Int32) S (.int 0)) (g_d1 : n0 ≤ d1) (ne_a1_d1 : a1 ≠ d1) (ne_b1_d1 : b1 ≠ d1) (hN : (0 : Int32) < nn) (HS : IntS S) (HF : ¬ gi S (stF x0) = 0 → ¬ gi S (afF (stF x0)) = 0 → gi S (afF (afF (stF x0))) = 0) :
    MetFree l (⟨"com/example/bindery/bindery/PartIndex", "place", "(I)V"⟩ : MethodName) (head1 (Jvm.Cond.code (⟨"com/example/bindery/bindery/PartIndex", "place", "(I)V"⟩ : MethodName) prog_150_method_12_code 3 none :: ws) ({ frames := 1, cells := 0, slots := 0, locals := 13 } : Room)) (fun a U => a = #[(.ref a1), (.int 0)] ∧ Z.Warmed39 U.vm ∧ U.heap = h0) (fun _ _ _ _ _ => True) (fun _ U o U' => ∃ v L, o = .returned v ∧ QPl Z d1 kd (S.set (prF S (stF x0)).toNatClampNeg (.int (1 : Int32))) h0 n0 v U'.heap L ∧ FrameEnd U o U' L ({ frames := 1, cells := 0, slots := 0, locals := 13 } : Room).cells ({ frames := 1, cells := 0, slots := 0, locals := 13 } : Room).slots) := by
  refine own_enter pn_12 ?_
  intro p e s m below meth c s₁ QQ hQQ hx hby hml hown hnm hret hlk hZ X0 e0
  have hown : s.vm.findClass "com/example/bindery/bindery/PartIndex" = some m.cls := hown
  have hml : c.maxLocals = 3 := hml
  have hret : meth.sig.returnType = none := hret
  have N0 := Fr.nil n0
  have K0 := Keep.refl h0 [d1]
  refine Goes.cast (ef_rmPl_0 m a1 (0 : Int32)) ?_
  show Goes p e below QQ (s₁.setTop (mkF m 0 #[rv a1, iv 0, .unset] []))
  refine G1 (XS.aloadN X0.here hx rfl (hb hby d12_0) rfl rfl) ?_
  refine G1 (XS.aloadN X0.here hx rfl (hb hby d12_1) rfl rfl) ?_
  show Goes p e below QQ (s₁.setTop (mkF m 2 #[rv a1, iv 0, .unset] [(.ref a1), (.ref a1)]))
  obtain ⟨T1, X1, e1, st1⟩ := getF X0 hx hZ hown (host := "") (Or.inl (wI hw 21 rfl)) Via.refl e0 F_hashes_a1 (g := (mkF m 2 #[rv a1, iv 0, .unset] [(.ref a1), (.ref a1)])) rfl rfl (hb hby d12_2)
  refine Goes.on (fun t k => st1 t k) ?_
  show Goes p e below QQ (T1.setTop (mkF m 5 #[rv a1, iv 0, .unset] [(.ref b1), (.ref a1)]))
  refine G1 (XS.iloadN X1.here hx rfl (hb hby d12_5) rfl) ?_
  show Goes p e below QQ (T1.setTop (mkF m 6 #[rv a1, iv 0, .unset] [(.int 0), (.ref b1), (.ref a1)]))
  obtain ⟨cl2, Ar2, aq2, aS2, aN2, aH2, aG2⟩ := id V_b1
  have hin2 := inb_of (j := (0 : Int32)) aS2 ⟨by decide, hN⟩
  have hat2 := Has.at (v := (.int x0)) aH2 hin2 rfl
  refine Goes.on (fun t k => X1.iaload hx (j := (0 : Int32)) (v := (.int x0)) (by rw [e1]; exact Ar2.1) (State.isArrayOf_alike hZ.alike Ar2.2.1) Ar2.2.2 hin2 hat2 (g := (mkF m 6 #[rv a1, iv 0, .unset] [(.int 0), (.ref b1), (.ref a1)])) rfl rfl (hb hby d12_6) t k) ?_
  show Goes p e below QQ (T1.setTop (mkF m 7 #[rv a1, iv 0, .unset] [(.int x0), (.ref a1)]))
  obtain ⟨cq3, kq3, q3a, q3b, q3c⟩ := isOf hZ e1 E_a1
  obtain ⟨_, _, ⟨T3, L3, k3, n3⟩, -, X3, ⟨Lc3, hQ3, l3, y3, z3⟩, st3⟩ := X1.virtualBack hx (y := (⟨"com/example/bindery/bindery/PartIndex", "start", "(I)I"⟩ : MethodName)) (z := (⟨"com/example/bindery/bindery/PartIndex", "start", "(I)I"⟩ : MethodName)) hown (mvT hZ (wI hw 66 rfl)) (mvT hZ (wI hw 67 rfl)) (notFace_of_selects (args := #[]) (mvT hZ (wI hw 69 rfl))) (mvT hZ (wI hw 69 rfl)) (mvT hZ (wI hw 68 rfl)) (by decide) (backOf (W := 0) (rmSt l Z a0 hw [] a1 x0 d1 h0 n0 (Nat.le_trans Z0 K0.1) F_slots_a1 F_shift_a1) hZ (wI hw 70 rfl) (wI hw 2 rfl) (by decide) (by decide)) q3a q3c (g := (mkF m 7 #[rv a1, iv 0, .unset] [(.int x0), (.ref a1)])) rfl (by rw [hml]; rfl) (Steps.refl _) (argsL := [(.int x0)]) (rest := []) (lenOf pd_1 rfl) rfl (by show 2 * 0 + _ ≤ _; exact Nat.le_of_eq rfl) (hb hby d12_7) (fun _ _ => ⟨rfl, e1, (by decide : 0 + 0 ≤ _), (by decide : 0 + 0 ≤ _)⟩)
  dsimp only [Pt.U, Pt.locs, Pt.cells, Pt.slots] at X3 l3 y3 z3 st3 hQ3
  have l3 := l3.symm; have y3 := y3.symm; have z3 := z3.symm; subst l3 y3 z3
  have X3 : Stand p l e ({ frames := 1, cells := 0, slots := 0, locals := 13 } : Room) s m #[(.ref a1), (.int 0)] below meth c T3 _ 0 0 := X3
  obtain ⟨rfl, M3, e3⟩ := hQ3
  have N3 := Fr.app N0 M3
  refine Goes.on (fun t k => st3.trans k) ?_
  show Goes p e below QQ (T3.setTop (mkF m 10 #[rv a1, iv 0, .unset] [(.int (stF x0))]))
  refine G1 (XS.istoreN X3.here hx rfl (hb hby d12_10) rfl (l' := #[rv a1, iv 0, iv (stF x0)]) rfl) ?_
  refine G1 (XS.aloadN X3.here hx rfl (hb hby d12_11) rfl rfl) ?_
  show Goes p e below QQ (T3.setTop (mkF m 12 #[rv a1, iv 0, iv (stF x0)] [(.ref a1)]))
  obtain ⟨T4, X4, e4, st4⟩ := getF X3 hx hZ hown (host := "") (Or.inl (wI hw 29 rfl)) Via.refl e3 F_slots_a1 (g := (mkF m 12 #[rv a1, iv 0, iv (stF x0)] [(.ref a1)])) rfl rfl (hb hby d12_12)
  refine Goes.on (fun t k => st4 t k) ?_
  show Goes p e below QQ (T4.setTop (mkF m 15 #[rv a1, iv 0, iv (stF x0)] [(.ref d1)]))
  refine G1 (XS.iloadN X4.here hx rfl (hb hby d12_15) rfl) ?_
  show Goes p e below QQ (T4.setTop (mkF m 16 #[rv a1, iv 0, iv (stF x0)] [(.int (stF x0)), (.ref d1)]))
  obtain ⟨cl5, Ar5, aq5, aS5, aN5, aH5, aG5⟩ := id V_d1
  have hin5 := inb_of (j := (stF x0)) aS5 (own_st x0)
  have hat5 := Has.at (v := (.int (gi S (stF x0)))) aH5 hin5 (HS.2 _)
  refine Goes.on (fun t k => X4.iaload hx (j := (stF x0)) (v := (.int (gi S (stF x0)))) (by rw [e4]; exact Ar5.1) (State.isArrayOf_alike hZ.alike Ar5.2.1) Ar5.2.2 hin5 hat5 (g := (mkF m 16 #[rv a1, iv 0, iv (stF x0)] [(.int (stF x0)), (.ref d1)])) rfl rfl (hb hby d12_16) t k) ?_
  show Goes p e below QQ (T4.setTop (mkF m 17 #[rv a1, iv 0, iv (stF x0)] [(.int (gi S (stF x0)))]))
  by_cases hb6 : (gi S (stF x0)) = (0 : Int32)
  · refine G1 (XS.ifYes X4.here hx rfl (pc0 := 17) (pc' := 29) rfl (hb hby d12_17) rfl ((if0 _ _).trans (teq hb6).1) (by decide) (by decide)) ?_
    show Gs p e below QQ T4 m 29 #[rv a1, iv 0, iv (stF x0)] []
    refine G1 (XS.aloadN X4.here hx rfl (hb hby d12_29) rfl rfl) ?_
    show Goes p e below QQ (T4.setTop (mkF m 30 #[rv a1, iv 0, iv (stF x0)] [(.ref a1)]))
    obtain ⟨T7, X7, e7, st7⟩ := getF X4 hx hZ hown (host := "") (Or.inl (wI hw 29 rfl)) Via.refl e4 F_slots_a1 (g := (mkF m 30 #[rv a1, iv 0, iv (stF x0)] [(.ref a1)])) rfl rfl (hb hby d12_30)
    refine Goes.on (fun t k => st7 t k) ?_
    show Goes p e below QQ (T7.setTop (mkF m 33 #[rv a1, iv 0, iv (stF x0)] [(.ref d1)]))
    refine G1 (XS.iloadN X7.here hx rfl (hb hby d12_33) rfl) ?_
    refine G1 (XS.iloadN X7.here hx rfl (hb hby d12_34) rfl) ?_
    refine G1 (XS.iconst X7.here hx rfl (hb hby d12_35)) ?_
    show Gs p e below QQ T7 m 36 #[rv a1, iv 0, iv (stF x0)] [(.int 1), (.int 0), (.int (stF x0)), (.ref d1)]
    refine G1 (XS.iadd X7.here hx rfl (hb hby d12_36) rfl) ?_
    show Goes p e below QQ (T7.setTop (mkF m 37 #[rv a1, iv 0, iv (stF x0)] [(.int ((0 : Int32) + (1 : Int32))), (.int (stF x0)), (.ref d1)]))
    rw [(by decide : ((0 : Int32) + (1 : Int32)) = (1 : Int32))]
    show Goes p e below QQ (T7.setTop (mkF m 37 #[rv a1, iv 0, iv (stF x0)] [(.int 1), (.int (stF x0)), (.ref d1)]))
    obtain ⟨cl8, Ar8, aq8, aS8, aN8, aH8, aG8⟩ := id V_d1
    have hin8 := inb_of (j := (stF x0)) aS8 (own_st x0)
    obtain ⟨T9, h9, X9, e9, W9, st9⟩ := stI X7 hx hZ e7 Ar8 (j := (stF x0)) hin8 (g := (mkF m 37 #[rv a1, iv 0, iv (stF x0)] [(.int 1), (.int (stF x0)), (.ref d1)])) rfl rfl (hb hby d12_37)
    have E_10 := E_a1.wr W9
    have F_11 := F_hashes_a1.other W9 (Or.inl ne_a1_d1)
    have F_12 := F_slots_a1.other W9 (Or.inl ne_a1_d1)
    have F_13 := F_shift_a1.other W9 (Or.inl ne_a1_d1)
    have F_14 := F_size_a1.other W9 (Or.inl ne_a1_d1)
    have V_15 := V_b1.other W9 ne_b1_d1
    have K9 := K0.wr W9 (Or.inl (List.mem_of_getElem? (i := 0) rfl))
    have N9 := Fr.snoc X9 N3 g_d1
    have V_16 : Arv Z h9 d1 kd .int (32 : Int32) (S.set ((stF x0)).toNatClampNeg (.int 1)) (.int 0) := Arv.set Ar8 aq8 aS8 aN8 aH8 aG8 rfl W9 ((stF x0)).toNatClampNeg rfl (own_ltS (own_st x0) HS)
    refine Goes.on (fun t k => st9 t k) ?_
    show Goes p e below QQ (T9.setTop (mkF m 38 #[rv a1, iv 0, iv (stF x0)] []))
    exact Goes.rV X9 hx hret hlk (hb hby d12_38) hQQ (by rw [e9]; exact ⟨rfl, N9, K9, (by rw [(show prF S (stF x0) = (stF x0) from ((if_pos hb6).trans rfl))]; exact V_16)⟩) (by decide) (by decide)
  · refine G1 (XS.ifNo X4.here hx rfl (hb hby d12_17) rfl ((if0 _ _).trans (feq hb6).1)) ?_
    show Gs p e below QQ T4 m 20 #[rv a1, iv 0, iv (stF x0)] []
    refine G1 (XS.aloadN X4.here hx rfl (hb hby d12_20) rfl rfl) ?_
    refine G1 (XS.iloadN X4.here hx rfl (hb hby d12_21) rfl) ?_
    show Goes p e below QQ (T4.setTop (mkF m 22 #[rv a1, iv 0, iv (stF x0)] [(.int (stF x0)), (.ref a1)]))
    obtain ⟨cq17, kq17, q17a, q17b, q17c⟩ := isOf hZ e4 E_a1
    obtain ⟨_, _, ⟨T17, L17, k17, n17⟩, -, X17, ⟨Lc17, hQ17, l17, y17, z17⟩, st17⟩ := X4.virtualBack hx (y := (⟨"com/example/bindery/bindery/PartIndex", "after", "(I)I"⟩ : MethodName)) (z := (⟨"com/example/bindery/bindery/PartIndex", "after", "(I)I"⟩ : MethodName)) hown (mvT hZ (wI hw 72 rfl)) (mvT hZ (wI hw 73 rfl)) (notFace_of_selects (args := #[]) (mvT hZ (wI hw 75 rfl))) (mvT hZ (wI hw 75 rfl)) (mvT hZ (wI hw 74 rfl)) (by decide) (backOf (W := 0) (rmAf l Z a0 hw [] a1 (stF x0) d1 kd S h0 n0 (Nat.le_trans Z0 K0.1) F_slots_a1 V_d1) hZ (wI hw 76 rfl) (wI hw 2 rfl) (by decide) (by decide)) q17a q17c (g := (mkF m 22 #[rv a1, iv 0, iv (stF x0)] [(.int (stF x0)), (.ref a1)])) rfl (by rw [hml]; rfl) (Steps.refl _) (argsL := [(.int (stF x0))]) (rest := []) (lenOf pd_1 rfl) rfl (by show 2 * 0 + _ ≤ _; exact Nat.le_of_eq rfl) (hb hby d12_22) (fun _ _ => ⟨rfl, e4, (by decide : 0 + 0 ≤ _), (by decide : 0 + 0 ≤ _)⟩)
    dsimp only [Pt.U, Pt.locs, Pt.cells, Pt.slots] at X17 l17 y17 z17 st17 hQ17
    have l17 := l17.symm; have y17 := y17.symm; have z17 := z17.symm; subst l17 y17 z17
    have X17 : Stand p l e ({ frames := 1, cells := 0, slots := 0, locals := 13 } : Room) s m #[(.ref a1), (.int 0)] below meth c T17 _ 0 0 := X17
    obtain ⟨rfl, M17, e17⟩ := hQ17
    have N17 := Fr.app N3 M17
    refine Goes.on (fun t k => st17.trans k) ?_
    show Goes p e below QQ (T17.setTop (mkF m 25 #[rv a1, iv 0, iv (stF x0)] [(.int (afF (stF x0)))]))
    refine G1 (XS.istoreN X17.here hx rfl (hb hby d12_25) rfl (l' := #[rv a1, iv 0, iv (afF (stF x0))]) rfl) ?_
    refine G1 (XS.goto X17.here hx rfl (pc0 := 26) (pc' := 11) rfl (hb hby d12_26) (by decide) (by decide)) ?_
    refine G1 (XS.aloadN X17.here hx rfl (hb hby d12_11) rfl rfl) ?_
    show Goes p e below QQ (T17.setTop (mkF m 12 #[rv a1, iv 0, iv (afF (stF x0))] [(.ref a1)]))
    obtain ⟨T18, X18, e18, st18⟩ := getF X17 hx hZ hown (host := "") (Or.inl (wI hw 29 rfl)) Via.refl e17 F_slots_a1 (g := (mkF m 12 #[rv a1, iv 0, iv (afF (stF x0))] [(.ref a1)])) rfl rfl (hb hby d12_12)
    refine Goes.on (fun t k => st18 t k) ?_
    show Goes p e below QQ (T18.setTop (mkF m 15 #[rv a1, iv 0, iv (afF (stF x0))] [(.ref d1)]))
    refine G1 (XS.iloadN X18.here hx rfl (hb hby d12_15) rfl) ?_
    show Goes p e below QQ (T18.setTop (mkF m 16 #[rv a1, iv 0, iv (afF (stF x0))] [(.int (afF (stF x0))), (.ref d1)]))
    obtain ⟨cl19, Ar19, aq19, aS19, aN19, aH19, aG19⟩ := id V_d1
    have hin19 := inb_of (j := (afF (stF x0))) aS19 (own_af (stF x0))
    have hat19 := Has.at (v := (.int (gi S (afF (stF x0))))) aH19 hin19 (HS.2 _)
    refine Goes.on (fun t k => X18.iaload hx (j := (afF (stF x0))) (v := (.int (gi S (afF (stF x0))))) (by rw [e18]; exact Ar19.1) (State.isArrayOf_alike hZ.alike Ar19.2.1) Ar19.2.2 hin19 hat19 (g := (mkF m 16 #[rv a1, iv 0, iv (afF (stF x0))] [(.int (afF (stF x0))), (.ref d1)])) rfl rfl (hb hby d12_16) t k) ?_
    show Goes p e below QQ (T18.setTop (mkF m 17 #[rv a1, iv 0, iv (afF (stF x0))] [(.int (gi S (afF (stF x0))))]))
    by_cases hb20 : (gi S (afF (stF x0))) = (0 : Int32)
    · refine G1 (XS.ifYes X18.here hx rfl (pc0 := 17) (pc' := 29) rfl (hb hby d12_17) rfl ((if0 _ _).trans (teq hb20).1) (by decide) (by decide)) ?_
      show Gs p e below QQ T18 m 29 #[rv a1, iv 0, iv (afF (stF x0))] []
      refine G1 (XS.aloadN X18.here hx rfl (hb hby d12_29) rfl rfl) ?_
      show Goes p e below QQ (T18.setTop (mkF m 30 #[rv a1, iv 0, iv (afF (stF x0))] [(.ref a1)]))
      obtain ⟨T21, X21, e21, st21⟩ := getF X18 hx hZ hown (host := "") (Or.inl (wI hw 29 rfl)) Via.refl e18 F_slots_a1 (g := (mkF m 30 #[rv a1, iv 0, iv (afF (stF x0))] [(.ref a1)])) rfl rfl (hb hby d12_30)
      refine Goes.on (fun t k => st21 t k) ?_
      show Goes p e below QQ (T21.setTop (mkF m 33 #[rv a1, iv 0, iv (afF (stF x0))] [(.ref d1)]))
      refine G1 (XS.iloadN X21.here hx rfl (hb hby d12_33) rfl) ?_
      refine G1 (XS.iloadN X21.here hx rfl (hb hby d12_34) rfl) ?_
      refine G1 (XS.iconst X21.here hx rfl (hb hby d12_35)) ?_
      show Gs p e below QQ T21 m 36 #[rv a1, iv 0, iv (afF (stF x0))] [(.int 1), (.int 0), (.int (afF (stF x0))), (.ref d1)]
      refine G1 (XS.iadd X21.here hx rfl (hb hby d12_36) rfl) ?_
      show Goes p e below QQ (T21.setTop (mkF m 37 #[rv a1, iv 0, iv (afF (stF x0))] [(.int ((0 : Int32) + (1 : Int32))), (.int (afF (stF x0))), (.ref d1)]))
      rw [(by decide : ((0 : Int32) + (1 : Int32)) = (1 : Int32))]
      show Goes p e below QQ (T21.setTop (mkF m 37 #[rv a1, iv 0, iv (afF (stF x0))] [(.int 1), (.int (afF (stF x0))), (.ref d1)]))
      obtain ⟨cl22, Ar22, aq22, aS22, aN22, aH22, aG22⟩ := id V_d1
      have hin22 := inb_of (j := (afF (stF x0))) aS22 (own_af (stF x0))
      obtain ⟨T23, h23, X23, e23, W23, st23⟩ := stI X21 hx hZ e21 Ar22 (j := (afF (stF x0))) hin22 (g := (mkF m 37 #[rv a1, iv 0, iv (afF (stF x0))] [(.int 1), (.int (afF (stF x0))), (.ref d1)])) rfl rfl (hb hby d12_37)
      have E_24 := E_a1.wr W23
      have F_25 := F_hashes_a1.other W23 (Or.inl ne_a1_d1)
      have F_26 := F_slots_a1.other W23 (Or.inl ne_a1_d1)
      have F_27 := F_shift_a1.other W23 (Or.inl ne_a1_d1)
      have F_28 := F_size_a1.other W23 (Or.inl ne_a1_d1)
      have V_29 := V_b1.other W23 ne_b1_d1
      have K23 := K0.wr W23 (Or.inl (List.mem_of_getElem? (i := 0) rfl))
      have N23 := Fr.snoc X23 N17 g_d1
      have V_30 : Arv Z h23 d1 kd .int (32 : Int32) (S.set ((afF (stF x0))).toNatClampNeg (.int 1)) (.int 0) := Arv.set Ar22 aq22 aS22 aN22 aH22 aG22 rfl W23 ((afF (stF x0))).toNatClampNeg rfl (own_ltS (own_af (stF x0)) HS)
      refine Goes.on (fun t k => st23 t k) ?_
      show Goes p e below QQ (T23.setTop (mkF m 38 #[rv a1, iv 0, iv (afF (stF x0))] []))
      exact Goes.rV X23 hx hret hlk (hb hby d12_38) hQQ (by rw [e23]; exact ⟨rfl, N23, K23, (by rw [(show prF S (stF x0) = (afF (stF x0)) from ((if_neg hb6).trans ((if_pos hb20).trans rfl)))]; exact V_30)⟩) (by decide) (by decide)
    · refine G1 (XS.ifNo X18.here hx rfl (hb hby d12_17) rfl ((if0 _ _).trans (feq hb20).1)) ?_
      show Gs p e below QQ T18 m 20 #[rv a1, iv 0, iv (afF (stF x0))] []
      refine G1 (XS.aloadN X18.here hx rfl (hb hby d12_20) rfl rfl) ?_
      refine G1 (XS.iloadN X18.here hx rfl (hb hby d12_21) rfl) ?_
      show Goes p e below QQ (T18.setTop (mkF m 22 #[rv a1, iv 0, iv (afF (stF x0))] [(.int (afF (stF x0))), (.ref a1)]))
      obtain ⟨cq31, kq31, q31a, q31b, q31c⟩ := isOf hZ e18 E_a1
      obtain ⟨_, _, ⟨T31, L31, k31, n31⟩, -, X31, ⟨Lc31, hQ31, l31, y31, z31⟩, st31⟩ := X18.virtualBack hx (y := (⟨"com/example/bindery/bindery/PartIndex", "after", "(I)I"⟩ : MethodName)) (z := (⟨"com/example/bindery/bindery/PartIndex", "after", "(I)I"⟩ : MethodName)) hown (mvT hZ (wI hw 72 rfl)) (mvT hZ (wI hw 73 rfl)) (notFace_of_selects (args := #[]) (mvT hZ (wI hw 75 rfl))) (mvT hZ (wI hw 75 rfl)) (mvT hZ (wI hw 74 rfl)) (by decide) (backOf (W := 0) (rmAf l Z a0 hw [] a1 (afF (stF x0)) d1 kd S h0 n0 (Nat.le_trans Z0 K0.1) F_slots_a1 V_d1) hZ (wI hw 76 rfl) (wI hw 2 rfl) (by decide) (by decide)) q31a q31c (g := (mkF m 22 #[rv a1, iv 0, iv (afF (stF x0))] [(.int (afF (stF x0))), (.ref a1)])) rfl (by rw [hml]; rfl) (Steps.refl _) (argsL := [(.int (afF (stF x0)))]) (rest := []) (lenOf pd_1 rfl) rfl (by show 2 * 0 + _ ≤ _; exact Nat.le_of_eq rfl) (hb hby d12_22) (fun _ _ => ⟨rfl, e18, (by decide : 0 + 0 ≤ _), (by decide : 0 + 0 ≤ _)⟩)
      dsimp only [Pt.U, Pt.locs, Pt.cells, Pt.slots] at X31 l31 y31 z31 st31 hQ31
      have l31 := l31.symm; have y31 := y31.symm; have z31 := z31.symm; subst l31 y31 z31
      have X31 : Stand p l e ({ frames := 1, cells := 0, slots := 0, locals := 13 } : Room) s m #[(.ref a1), (.int 0)] below meth c T31 _ 0 0 := X31
      obtain ⟨rfl, M31, e31⟩ := hQ31
      have N31 := Fr.app N17 M31
      refine Goes.on (fun t k => st31.trans k) ?_
      show Goes p e below QQ (T31.setTop (mkF m 25 #[rv a1, iv 0, iv (afF (stF x0))] [(.int (afF (afF (stF x0))))]))
      refine G1 (XS.istoreN X31.here hx rfl (hb hby d12_25) rfl (l' := #[rv a1, iv 0, iv (afF (afF (stF x0)))]) rfl) ?_
      refine G1 (XS.goto X31.here hx rfl (pc0 := 26) (pc' := 11) rfl (hb hby d12_26) (by decide) (by decide)) ?_
      refine G1 (XS.aloadN X31.here hx rfl (hb hby d12_11) rfl rfl) ?_
      show Goes p e below QQ (T31.setTop (mkF m 12 #[rv a1, iv 0, iv (afF (afF (stF x0)))] [(.ref a1)]))
      obtain ⟨T32, X32, e32, st32⟩ := getF X31 hx hZ hown (host := "") (Or.inl (wI hw 29 rfl)) Via.refl e31 F_slots_a1 (g := (mkF m 12 #[rv a1, iv 0, iv (afF (afF (stF x0)))] [(.ref a1)])) rfl rfl (hb hby d12_12)
      refine Goes.on (fun t k => st32 t k) ?_
      show Goes p e below QQ (T32.setTop (mkF m 15 #[rv a1, iv 0, iv (afF (afF (stF x0)))] [(.ref d1)]))
      refine G1 (XS.iloadN X32.here hx rfl (hb hby d12_15) rfl) ?_
      show Goes p e below QQ (T32.setTop (mkF m 16 #[rv a1, iv 0, iv (afF (afF (stF x0)))] [(.int (afF (afF (stF x0)))), (.ref d1)]))
      obtain ⟨cl33, Ar33, aq33, aS33, aN33, aH33, aG33⟩ := id V_d1
      have hin33 := inb_of (j := (afF (afF (stF x0)))) aS33 (own_af (afF (stF x0)))
      have hat33 := Has.at (v := (.int (gi S (afF (afF (stF x0)))))) aH33 hin33 (HS.2 _)
      refine Goes.on (fun t k => X32.iaload hx (j := (afF (afF (stF x0)))) (v := (.int (gi S (afF (afF (stF x0)))))) (by rw [e32]; exact Ar33.1) (State.isArrayOf_alike hZ.alike Ar33.2.1) Ar33.2.2 hin33 hat33 (g := (mkF m 16 #[rv a1, iv 0, iv (afF (afF (stF x0)))] [(.int (afF (afF (stF x0)))), (.ref d1)])) rfl rfl (hb hby d12_16) t k) ?_
      show Goes p e below QQ (T32.setTop (mkF m 17 #[rv a1, iv 0, iv (afF (afF (stF x0)))] [(.int (gi S (afF (afF (stF x0)))))]))
      refine G1 (XS.ifYes X32.here hx rfl (pc0 := 17) (pc' := 29) rfl (hb hby d12_17) rfl ((if0 _ _).trans (teq (HF hb6 hb20)).1) (by decide) (by decide)) ?_
      show Gs p e below QQ T32 m 29 #[rv a1, iv 0, iv (afF (afF (stF x0)))] []
      refine G1 (XS.aloadN X32.here hx rfl (hb hby d12_29) rfl rfl) ?_
      show Goes p e below QQ (T32.setTop (mkF m 30 #[rv a1, iv 0, iv (afF (afF (stF x0)))] [(.ref a1)]))
      obtain ⟨T34, X34, e34, st34⟩ := getF X32 hx hZ hown (host := "") (Or.inl (wI hw 29 rfl)) Via.refl e32 F_slots_a1 (g := (mkF m 30 #[rv a1, iv 0, iv (afF (afF (stF x0)))] [(.ref a1)])) rfl rfl (hb hby d12_30)
      refine Goes.on (fun t k => st34 t k) ?_
      show Goes p e below QQ (T34.setTop (mkF m 33 #[rv a1, iv 0, iv (afF (afF (stF x0)))] [(.ref d1)]))
      refine G1 (XS.iloadN X34.here hx rfl (hb hby d12_33) rfl) ?_
      refine G1 (XS.iloadN X34.here hx rfl (hb hby d12_34) rfl) ?_
      refine G1 (XS.iconst X34.here hx rfl (hb hby d12_35)) ?_
      show Gs p e below QQ T34 m 36 #[rv a1, iv 0, iv (afF (afF (stF x0)))] [(.int 1), (.int 0), (.int (afF (afF (stF x0)))), (.ref d1)]
      refine G1 (XS.iadd X34.here hx rfl (hb hby d12_36) rfl) ?_
      show Goes p e below QQ (T34.setTop (mkF m 37 #[rv a1, iv 0, iv (afF (afF (stF x0)))] [(.int ((0 : Int32) + (1 : Int32))), (.int (afF (afF (stF x0)))), (.ref d1)]))
      rw [(by decide : ((0 : Int32) + (1 : Int32)) = (1 : Int32))]
      show Goes p e below QQ (T34.setTop (mkF m 37 #[rv a1, iv 0, iv (afF (afF (stF x0)))] [(.int 1), (.int (afF (afF (stF x0)))), (.ref d1)]))
      obtain ⟨cl35, Ar35, aq35, aS35, aN35, aH35, aG35⟩ := id V_d1
      have hin35 := inb_of (j := (afF (afF (stF x0)))) aS35 (own_af (afF (stF x0)))
      obtain ⟨T36, h36, X36, e36, W36, st36⟩ := stI X34 hx hZ e34 Ar35 (j := (afF (afF (stF x0)))) hin35 (g := (mkF m 37 #[rv a1, iv 0, iv (afF (afF (stF x0)))] [(.int 1), (.int (afF (afF (stF x0)))), (.ref d1)])) rfl rfl (hb hby d12_37)
      have E_37 := E_a1.wr W36
      have F_38 := F_hashes_a1.other W36 (Or.inl ne_a1_d1)
      have F_39 := F_slots_a1.other W36 (Or.inl ne_a1_d1)
      have F_40 := F_shift_a1.other W36 (Or.inl ne_a1_d1)
      have F_41 := F_size_a1.other W36 (Or.inl ne_a1_d1)
      have V_42 := V_b1.other W36 ne_b1_d1
      have K36 := K0.wr W36 (Or.inl (List.mem_of_getElem? (i := 0) rfl))
      have N36 := Fr.snoc X36 N31 g_d1
      have V_43 : Arv Z h36 d1 kd .int (32 : Int32) (S.set ((afF (afF (stF x0)))).toNatClampNeg (.int 1)) (.int 0) := Arv.set Ar35 aq35 aS35 aN35 aH35 aG35 rfl W36 ((afF (afF (stF x0)))).toNatClampNeg rfl (own_ltS (own_af (afF (stF x0))) HS)
      refine Goes.on (fun t k => st36 t k) ?_
      show Goes p e below QQ (T36.setTop (mkF m 38 #[rv a1, iv 0, iv (afF (afF (stF x0)))] []))
      exact Goes.rV X36 hx hret hlk (hb hby d12_38) hQQ (by rw [e36]; exact ⟨rfl, N36, K36, (by rw [(show prF S (stF x0) = (afF (afF (stF x0))) from ((if_neg hb6).trans ((if_neg hb20).trans rfl)))]; exact V_43)⟩) (by decide) (by decide)
theorem ef_rmPl_1 (m : MethodId) (x0 : Addr) (x1 : Int32) : entryFrame m #[(.ref x0), (.int x1)] 3 = mkF m 0 #[rv x0, iv x1, .unset] [] := by first | (simp [entryFrame, mkF, argsToLocals, Value.category]; done) | rfl
set_option maxRecDepth 65536 in
set_option maxHeartbeats 40000000 in
theorem rmPl_1 (l : Launch) (Z : State) (a0 : Array Value) (hw : ∀ d ∈ tables_1, d.before a0 Z = true) (ws : List Jvm.Cond) (a1 b1 d1 : Addr) (kb kd : ClassId) (nn x0 x1 x2 : Int32) (S : List Value) (h0 : Heap) (n0 : Nat) (Z0 : n0 ≤ h0.size) (E_a1 : Exa Z h0 a1 "com/example/bindery/bindery/PartIndex") (F_hashes_a1 : Fld Z h0 a1 "com/example/bindery/bindery/PartIndex" "hashes" "[I" (.ref b1)) (F_slots_a1 : Fld Z h0 a1 "com/example/bindery/bindery/PartIndex" "slots" "[I" (.ref d1)) (F_shift_a1 : Fld Z h0 a1 "com/example/bindery/bindery/PartIndex" "shift" "I" (.int 27)) (F_size_a1 : Fld Z h0 a1 "com/example/bindery/bindery/PartIndex" "size" "I" (.int 2)) (V_b1 : Arv Z h0 b1 kb .int nn [(.int x0), (.int x1), (.int x2)] (.int 0)) (V_d1 : Arv Z h0 d1 kd .int (32 : Int32) S (.int 0)) (g_d1 : n0 ≤ d1) (ne_a1_d1 : a1 ≠ d1) (ne_b1_d1 : b1 ≠ d1) (hN : (1 : Int32) < nn) (HS : IntS S) (HF : ¬ gi S (stF x1) = 0 → ¬ gi S (afF (stF x1)) = 0 → gi S (afF (afF (stF x1))) = 0) :
    MetFree l (⟨"com/example/bindery/bindery/PartIndex", "place", "(I)V"⟩ : MethodName) (head1 (Jvm.Cond.code (⟨"com/example/bindery/bindery/PartIndex", "place", "(I)V"⟩ : MethodName) prog_150_method_12_code 3 none :: ws) ({ frames := 1, cells := 0, slots := 0, locals := 13 } : Room)) (fun a U => a = #[(.ref a1), (.int 1)] ∧ Z.Warmed39 U.vm ∧ U.heap = h0) (fun _ _ _ _ _ => True) (fun _ U o U' => ∃ v L, o = .returned v ∧ QPl Z d1 kd (S.set (prF S (stF x1)).toNatClampNeg (.int (2 : Int32))) h0 n0 v U'.heap L ∧ FrameEnd U o U' L ({ frames := 1, cells := 0, slots := 0, locals := 13 } : Room).cells ({ frames := 1, cells := 0, slots := 0, locals := 13 } : Room).slots) := by
  refine own_enter pn_12 ?_
  intro p e s m below meth c s₁ QQ hQQ hx hby hml hown hnm hret hlk hZ X0 e0
  have hown : s.vm.findClass "com/example/bindery/bindery/PartIndex" = some m.cls := hown
  have hml : c.maxLocals = 3 := hml
  have hret : meth.sig.returnType = none := hret
  have N0 := Fr.nil n0
  have K0 := Keep.refl h0 [d1]
  refine Goes.cast (ef_rmPl_1 m a1 (1 : Int32)) ?_
  show Goes p e below QQ (s₁.setTop (mkF m 0 #[rv a1, iv 1, .unset] []))
  refine G1 (XS.aloadN X0.here hx rfl (hb hby d12_0) rfl rfl) ?_
  refine G1 (XS.aloadN X0.here hx rfl (hb hby d12_1) rfl rfl) ?_
  show Goes p e below QQ (s₁.setTop (mkF m 2 #[rv a1, iv 1, .unset] [(.ref a1), (.ref a1)]))
  obtain ⟨T1, X1, e1, st1⟩ := getF X0 hx hZ hown (host := "") (Or.inl (wI hw 21 rfl)) Via.refl e0 F_hashes_a1 (g := (mkF m 2 #[rv a1, iv 1, .unset] [(.ref a1), (.ref a1)])) rfl rfl (hb hby d12_2)
  refine Goes.on (fun t k => st1 t k) ?_
  show Goes p e below QQ (T1.setTop (mkF m 5 #[rv a1, iv 1, .unset] [(.ref b1), (.ref a1)]))
  refine G1 (XS.iloadN X1.here hx rfl (hb hby d12_5) rfl) ?_
  show Goes p e below QQ (T1.setTop (mkF m 6 #[rv a1, iv 1, .unset] [(.int 1), (.ref b1), (.ref a1)]))
  obtain ⟨cl2, Ar2, aq2, aS2, aN2, aH2, aG2⟩ := id V_b1
  have hin2 := inb_of (j := (1 : Int32)) aS2 ⟨by decide, hN⟩
  have hat2 := Has.at (v := (.int x1)) aH2 hin2 rfl
  refine Goes.on (fun t k => X1.iaload hx (j := (1 : Int32)) (v := (.int x1)) (by rw [e1]; exact Ar2.1) (State.isArrayOf_alike hZ.alike Ar2.2.1) Ar2.2.2 hin2 hat2 (g := (mkF m 6 #[rv a1, iv 1, .unset] [(.int 1), (.ref b1), (.ref a1)])) rfl rfl (hb hby d12_6) t k) ?_
  show Goes p e below QQ (T1.setTop (mkF m 7 #[rv a1, iv 1, .unset] [(.int x1), (.ref a1)]))
  obtain ⟨cq3, kq3, q3a, q3b, q3c⟩ := isOf hZ e1 E_a1
  obtain ⟨_, _, ⟨T3, L3, k3, n3⟩, -, X3, ⟨Lc3, hQ3, l3, y3, z3⟩, st3⟩ := X1.virtualBack hx (y := (⟨"com/example/bindery/bindery/PartIndex", "start", "(I)I"⟩ : MethodName)) (z := (⟨"com/example/bindery/bindery/PartIndex", "start", "(I)I"⟩ : MethodName)) hown (mvT hZ (wI hw 66 rfl)) (mvT hZ (wI hw 67 rfl)) (notFace_of_selects (args := #[]) (mvT hZ (wI hw 69 rfl))) (mvT hZ (wI hw 69 rfl)) (mvT hZ (wI hw 68 rfl)) (by decide) (backOf (W := 0) (rmSt l Z a0 hw [] a1 x1 d1 h0 n0 (Nat.le_trans Z0 K0.1) F_slots_a1 F_shift_a1) hZ (wI hw 70 rfl) (wI hw 2 rfl) (by decide) (by decide)) q3a q3c (g := (mkF m 7 #[rv a1, iv 1, .unset] [(.int x1), (.ref a1)])) rfl (by rw [hml]; rfl) (Steps.refl _) (argsL := [(.int x1)]) (rest := []) (lenOf pd_1 rfl) rfl (by show 2 * 0 + _ ≤ _; exact Nat.le_of_eq rfl) (hb hby d12_7) (fun _ _ => ⟨rfl, e1, (by decide : 0 + 0 ≤ _), (by decide : 0 + 0 ≤ _)⟩)
  dsimp only [Pt.U, Pt.locs, Pt.cells, Pt.slots] at X3 l3 y3 z3 st3 hQ3
  have l3 := l3.symm; have y3 := y3.symm; have z3 := z3.symm; subst l3 y3 z3
  have X3 : Stand p l e ({ frames := 1, cells := 0, slots := 0, locals := 13 } : Room) s m #[(.ref a1), (.int 1)] below meth c T3 _ 0 0 := X3
  obtain ⟨rfl, M3, e3⟩ := hQ3
  have N3 := Fr.app N0 M3
  refine Goes.on (fun t k => st3.trans k) ?_
  show Goes p e below QQ (T3.setTop (mkF m 10 #[rv a1, iv 1, .unset] [(.int (stF x1))]))
  refine G1 (XS.istoreN X3.here hx rfl (hb hby d12_10) rfl (l' := #[rv a1, iv 1, iv (stF x1)]) rfl) ?_
  refine G1 (XS.aloadN X3.here hx rfl (hb hby d12_11) rfl rfl) ?_
  show Goes p e below QQ (T3.setTop (mkF m 12 #[rv a1, iv 1, iv (stF x1)] [(.ref a1)]))
  obtain ⟨T4, X4, e4, st4⟩ := getF X3 hx hZ hown (host := "") (Or.inl (wI hw 29 rfl)) Via.refl e3 F_slots_a1 (g := (mkF m 12 #[rv a1, iv 1, iv (stF x1)] [(.ref a1)])) rfl rfl (hb hby d12_12)
  refine Goes.on (fun t k => st4 t k) ?_
  show Goes p e below QQ (T4.setTop (mkF m 15 #[rv a1, iv 1, iv (stF x1)] [(.ref d1)]))
  refine G1 (XS.iloadN X4.here hx rfl (hb hby d12_15) rfl) ?_
  show Goes p e below QQ (T4.setTop (mkF m 16 #[rv a1, iv 1, iv (stF x1)] [(.int (stF x1)), (.ref d1)]))
  obtain ⟨cl5, Ar5, aq5, aS5, aN5, aH5, aG5⟩ := id V_d1
  have hin5 := inb_of (j := (stF x1)) aS5 (own_st x1)
  have hat5 := Has.at (v := (.int (gi S (stF x1)))) aH5 hin5 (HS.2 _)
  refine Goes.on (fun t k => X4.iaload hx (j := (stF x1)) (v := (.int (gi S (stF x1)))) (by rw [e4]; exact Ar5.1) (State.isArrayOf_alike hZ.alike Ar5.2.1) Ar5.2.2 hin5 hat5 (g := (mkF m 16 #[rv a1, iv 1, iv (stF x1)] [(.int (stF x1)), (.ref d1)])) rfl rfl (hb hby d12_16) t k) ?_
  show Goes p e below QQ (T4.setTop (mkF m 17 #[rv a1, iv 1, iv (stF x1)] [(.int (gi S (stF x1)))]))
  by_cases hb6 : (gi S (stF x1)) = (0 : Int32)
  · refine G1 (XS.ifYes X4.here hx rfl (pc0 := 17) (pc' := 29) rfl (hb hby d12_17) rfl ((if0 _ _).trans (teq hb6).1) (by decide) (by decide)) ?_
    show Gs p e below QQ T4 m 29 #[rv a1, iv 1, iv (stF x1)] []
    refine G1 (XS.aloadN X4.here hx rfl (hb hby d12_29) rfl rfl) ?_
    show Goes p e below QQ (T4.setTop (mkF m 30 #[rv a1, iv 1, iv (stF x1)] [(.ref a1)]))
    obtain ⟨T7, X7, e7, st7⟩ := getF X4 hx hZ hown (host := "") (Or.inl (wI hw 29 rfl)) Via.refl e4 F_slots_a1 (g := (mkF m 30 #[rv a1, iv 1, iv (stF x1)] [(.ref a1)])) rfl rfl (hb hby d12_30)
    refine Goes.on (fun t k => st7 t k) ?_
    show Goes p e below QQ (T7.setTop (mkF m 33 #[rv a1, iv 1, iv (stF x1)] [(.ref d1)]))
    refine G1 (XS.iloadN X7.here hx rfl (hb hby d12_33) rfl) ?_
    refine G1 (XS.iloadN X7.here hx rfl (hb hby d12_34) rfl) ?_
    refine G1 (XS.iconst X7.here hx rfl (hb hby d12_35)) ?_
    show Gs p e below QQ T7 m 36 #[rv a1, iv 1, iv (stF x1)] [(.int 1), (.int 1), (.int (stF x1)), (.ref d1)]
    refine G1 (XS.iadd X7.here hx rfl (hb hby d12_36) rfl) ?_
    show Goes p e below QQ (T7.setTop (mkF m 37 #[rv a1, iv 1, iv (stF x1)] [(.int ((1 : Int32) + (1 : Int32))), (.int (stF x1)), (.ref d1)]))
    rw [(by decide : ((1 : Int32) + (1 : Int32)) = (2 : Int32))]
    show Goes p e below QQ (T7.setTop (mkF m 37 #[rv a1, iv 1, iv (stF x1)] [(.int 2), (.int (stF x1)), (.ref d1)]))
    obtain ⟨cl8, Ar8, aq8, aS8, aN8, aH8, aG8⟩ := id V_d1
    have hin8 := inb_of (j := (stF x1)) aS8 (own_st x1)
    obtain ⟨T9, h9, X9, e9, W9, st9⟩ := stI X7 hx hZ e7 Ar8 (j := (stF x1)) hin8 (g := (mkF m 37 #[rv a1, iv 1, iv (stF x1)] [(.int 2), (.int (stF x1)), (.ref d1)])) rfl rfl (hb hby d12_37)
    have E_10 := E_a1.wr W9
    have F_11 := F_hashes_a1.other W9 (Or.inl ne_a1_d1)
    have F_12 := F_slots_a1.other W9 (Or.inl ne_a1_d1)
    have F_13 := F_shift_a1.other W9 (Or.inl ne_a1_d1)
    have F_14 := F_size_a1.other W9 (Or.inl ne_a1_d1)
    have V_15 := V_b1.other W9 ne_b1_d1
    have K9 := K0.wr W9 (Or.inl (List.mem_of_getElem? (i := 0) rfl))
    have N9 := Fr.snoc X9 N3 g_d1
    have V_16 : Arv Z h9 d1 kd .int (32 : Int32) (S.set ((stF x1)).toNatClampNeg (.int 2)) (.int 0) := Arv.set Ar8 aq8 aS8 aN8 aH8 aG8 rfl W9 ((stF x1)).toNatClampNeg rfl (own_ltS (own_st x1) HS)
    refine Goes.on (fun t k => st9 t k) ?_
    show Goes p e below QQ (T9.setTop (mkF m 38 #[rv a1, iv 1, iv (stF x1)] []))
    exact Goes.rV X9 hx hret hlk (hb hby d12_38) hQQ (by rw [e9]; exact ⟨rfl, N9, K9, (by rw [(show prF S (stF x1) = (stF x1) from ((if_pos hb6).trans rfl))]; exact V_16)⟩) (by decide) (by decide)
  · refine G1 (XS.ifNo X4.here hx rfl (hb hby d12_17) rfl ((if0 _ _).trans (feq hb6).1)) ?_
    show Gs p e below QQ T4 m 20 #[rv a1, iv 1, iv (stF x1)] []
    refine G1 (XS.aloadN X4.here hx rfl (hb hby d12_20) rfl rfl) ?_
    refine G1 (XS.iloadN X4.here hx rfl (hb hby d12_21) rfl) ?_
    show Goes p e below QQ (T4.setTop (mkF m 22 #[rv a1, iv 1, iv (stF x1)] [(.int (stF x1)), (.ref a1)]))
    obtain ⟨cq17, kq17, q17a, q17b, q17c⟩ := isOf hZ e4 E_a1
    obtain ⟨_, _, ⟨T17, L17, k17, n17⟩, -, X17, ⟨Lc17, hQ17, l17, y17, z17⟩, st17⟩ := X4.virtualBack hx (y := (⟨"com/example/bindery/bindery/PartIndex", "after", "(I)I"⟩ : MethodName)) (z := (⟨"com/example/bindery/bindery/PartIndex", "after", "(I)I"⟩ : MethodName)) hown (mvT hZ (wI hw 72 rfl)) (mvT hZ (wI hw 73 rfl)) (notFace_of_selects (args := #[]) (mvT hZ (wI hw 75 rfl))) (mvT hZ (wI hw 75 rfl)) (mvT hZ (wI hw 74 rfl)) (by decide) (backOf (W := 0) (rmAf l Z a0 hw [] a1 (stF x1) d1 kd S h0 n0 (Nat.le_trans Z0 K0.1) F_slots_a1 V_d1) hZ (wI hw 76 rfl) (wI hw 2 rfl) (by decide) (by decide)) q17a q17c (g := (mkF m 22 #[rv a1, iv 1, iv (stF x1)] [(.int (stF x1)), (.ref a1)])) rfl (by rw [hml]; rfl) (Steps.refl _) (argsL := [(.int (stF x1))]) (rest := []) (lenOf pd_1 rfl) rfl (by show 2 * 0 + _ ≤ _; exact Nat.le_of_eq rfl) (hb hby d12_22) (fun _ _ => ⟨rfl, e4, (by decide : 0 + 0 ≤ _), (by decide : 0 + 0 ≤ _)⟩)
    dsimp only [Pt.U, Pt.locs, Pt.cells, Pt.slots] at X17 l17 y17 z17 st17 hQ17
    have l17 := l17.symm; have y17 := y17.symm; have z17 := z17.symm; subst l17 y17 z17
    have X17 : Stand p l e ({ frames := 1, cells := 0, slots := 0, locals := 13 } : Room) s m #[(.ref a1), (.int 1)] below meth c T17 _ 0 0 := X17
    obtain ⟨rfl, M17, e17⟩ := hQ17
    have N17 := Fr.app N3 M17
    refine Goes.on (fun t k => st17.trans k) ?_
    show Goes p e below QQ (T17.setTop (mkF m 25 #[rv a1, iv 1, iv (stF x1)] [(.int (afF (stF x1)))]))
    refine G1 (XS.istoreN X17.here hx rfl (hb hby d12_25) rfl (l' := #[rv a1, iv 1, iv (afF (stF x1))]) rfl) ?_
    refine G1 (XS.goto X17.here hx rfl (pc0 := 26) (pc' := 11) rfl (hb hby d12_26) (by decide) (by decide)) ?_
    refine G1 (XS.aloadN X17.here hx rfl (hb hby d12_11) rfl rfl) ?_
    show Goes p e below QQ (T17.setTop (mkF m 12 #[rv a1, iv 1, iv (afF (stF x1))] [(.ref a1)]))
    obtain ⟨T18, X18, e18, st18⟩ := getF X17 hx hZ hown (host := "") (Or.inl (wI hw 29 rfl)) Via.refl e17 F_slots_a1 (g := (mkF m 12 #[rv a1, iv 1, iv (afF (stF x1))] [(.ref a1)])) rfl rfl (hb hby d12_12)
    refine Goes.on (fun t k => st18 t k) ?_
    show Goes p e below QQ (T18.setTop (mkF m 15 #[rv a1, iv 1, iv (afF (stF x1))] [(.ref d1)]))
    refine G1 (XS.iloadN X18.here hx rfl (hb hby d12_15) rfl) ?_
    show Goes p e below QQ (T18.setTop (mkF m 16 #[rv a1, iv 1, iv (afF (stF x1))] [(.int (afF (stF x1))), (.ref d1)]))
    obtain ⟨cl19, Ar19, aq19, aS19, aN19, aH19, aG19⟩ := id V_d1
    have hin19 := inb_of (j := (afF (stF x1))) aS19 (own_af (stF x1))
    have hat19 := Has.at (v := (.int (gi S (afF (stF x1))))) aH19 hin19 (HS.2 _)
    refine Goes.on (fun t k => X18.iaload hx (j := (afF (stF x1))) (v := (.int (gi S (afF (stF x1))))) (by rw [e18]; exact Ar19.1) (State.isArrayOf_alike hZ.alike Ar19.2.1) Ar19.2.2 hin19 hat19 (g := (mkF m 16 #[rv a1, iv 1, iv (afF (stF x1))] [(.int (afF (stF x1))), (.ref d1)])) rfl rfl (hb hby d12_16) t k) ?_
    show Goes p e below QQ (T18.setTop (mkF m 17 #[rv a1, iv 1, iv (afF (stF x1))] [(.int (gi S (afF (stF x1))))]))
    by_cases hb20 : (gi S (afF (stF x1))) = (0 : Int32)
    · refine G1 (XS.ifYes X18.here hx rfl (pc0 := 17) (pc' := 29) rfl (hb hby d12_17) rfl ((if0 _ _).trans (teq hb20).1) (by decide) (by decide)) ?_
      show Gs p e below QQ T18 m 29 #[rv a1, iv 1, iv (afF (stF x1))] []
      refine G1 (XS.aloadN X18.here hx rfl (hb hby d12_29) rfl rfl) ?_
      show Goes p e below QQ (T18.setTop (mkF m 30 #[rv a1, iv 1, iv (afF (stF x1))] [(.ref a1)]))
      obtain ⟨T21, X21, e21, st21⟩ := getF X18 hx hZ hown (host := "") (Or.inl (wI hw 29 rfl)) Via.refl e18 F_slots_a1 (g := (mkF m 30 #[rv a1, iv 1, iv (afF (stF x1))] [(.ref a1)])) rfl rfl (hb hby d12_30)
      refine Goes.on (fun t k => st21 t k) ?_
      show Goes p e below QQ (T21.setTop (mkF m 33 #[rv a1, iv 1, iv (afF (stF x1))] [(.ref d1)]))
      refine G1 (XS.iloadN X21.here hx rfl (hb hby d12_33) rfl) ?_
      refine G1 (XS.iloadN X21.here hx rfl (hb hby d12_34) rfl) ?_
      refine G1 (XS.iconst X21.here hx rfl (hb hby d12_35)) ?_
      show Gs p e below QQ T21 m 36 #[rv a1, iv 1, iv (afF (stF x1))] [(.int 1), (.int 1), (.int (afF (stF x1))), (.ref d1)]
      refine G1 (XS.iadd X21.here hx rfl (hb hby d12_36) rfl) ?_
      show Goes p e below QQ (T21.setTop (mkF m 37 #[rv a1, iv 1, iv (afF (stF x1))] [(.int ((1 : Int32) + (1 : Int32))), (.int (afF (stF x1))), (.ref d1)]))
      rw [(by decide : ((1 : Int32) + (1 : Int32)) = (2 : Int32))]
      show Goes p e below QQ (T21.setTop (mkF m 37 #[rv a1, iv 1, iv (afF (stF x1))] [(.int 2), (.int (afF (stF x1))), (.ref d1)]))
      obtain ⟨cl22, Ar22, aq22, aS22, aN22, aH22, aG22⟩ := id V_d1
      have hin22 := inb_of (j := (afF (stF x1))) aS22 (own_af (stF x1))
      obtain ⟨T23, h23, X23, e23, W23, st23⟩ := stI X21 hx hZ e21 Ar22 (j := (afF (stF x1))) hin22 (g := (mkF m 37 #[rv a1, iv 1, iv (afF (stF x1))] [(.int 2), (.int (afF (stF x1))), (.ref d1)])) rfl rfl (hb hby d12_37)
      have E_24 := E_a1.wr W23
      have F_25 := F_hashes_a1.other W23 (Or.inl ne_a1_d1)
      have F_26 := F_slots_a1.other W23 (Or.inl ne_a1_d1)
      have F_27 := F_shift_a1.other W23 (Or.inl ne_a1_d1)
      have F_28 := F_size_a1.other W23 (Or.inl ne_a1_d1)
      have V_29 := V_b1.other W23 ne_b1_d1
      have K23 := K0.wr W23 (Or.inl (List.mem_of_getElem? (i := 0) rfl))
      have N23 := Fr.snoc X23 N17 g_d1
      have V_30 : Arv Z h23 d1 kd .int (32 : Int32) (S.set ((afF (stF x1))).toNatClampNeg (.int 2)) (.int 0) := Arv.set Ar22 aq22 aS22 aN22 aH22 aG22 rfl W23 ((afF (stF x1))).toNatClampNeg rfl (own_ltS (own_af (stF x1)) HS)
      refine Goes.on (fun t k => st23 t k) ?_
      show Goes p e below QQ (T23.setTop (mkF m 38 #[rv a1, iv 1, iv (afF (stF x1))] []))
      exact Goes.rV X23 hx hret hlk (hb hby d12_38) hQQ (by rw [e23]; exact ⟨rfl, N23, K23, (by rw [(show prF S (stF x1) = (afF (stF x1)) from ((if_neg hb6).trans ((if_pos hb20).trans rfl)))]; exact V_30)⟩) (by decide) (by decide)
    · refine G1 (XS.ifNo X18.here hx rfl (hb hby d12_17) rfl ((if0 _ _).trans (feq hb20).1)) ?_
      show Gs p e below QQ T18 m 20 #[rv a1, iv 1, iv (afF (stF x1))] []
      refine G1 (XS.aloadN X18.here hx rfl (hb hby d12_20) rfl rfl) ?_
      refine G1 (XS.iloadN X18.here hx rfl (hb hby d12_21) rfl) ?_
      show Goes p e below QQ (T18.setTop (mkF m 22 #[rv a1, iv 1, iv (afF (stF x1))] [(.int (afF (stF x1))), (.ref a1)]))
      obtain ⟨cq31, kq31, q31a, q31b, q31c⟩ := isOf hZ e18 E_a1
      obtain ⟨_, _, ⟨T31, L31, k31, n31⟩, -, X31, ⟨Lc31, hQ31, l31, y31, z31⟩, st31⟩ := X18.virtualBack hx (y := (⟨"com/example/bindery/bindery/PartIndex", "after", "(I)I"⟩ : MethodName)) (z := (⟨"com/example/bindery/bindery/PartIndex", "after", "(I)I"⟩ : MethodName)) hown (mvT hZ (wI hw 72 rfl)) (mvT hZ (wI hw 73 rfl)) (notFace_of_selects (args := #[]) (mvT hZ (wI hw 75 rfl))) (mvT hZ (wI hw 75 rfl)) (mvT hZ (wI hw 74 rfl)) (by decide) (backOf (W := 0) (rmAf l Z a0 hw [] a1 (afF (stF x1)) d1 kd S h0 n0 (Nat.le_trans Z0 K0.1) F_slots_a1 V_d1) hZ (wI hw 76 rfl) (wI hw 2 rfl) (by decide) (by decide)) q31a q31c (g := (mkF m 22 #[rv a1, iv 1, iv (afF (stF x1))] [(.int (afF (stF x1))), (.ref a1)])) rfl (by rw [hml]; rfl) (Steps.refl _) (argsL := [(.int (afF (stF x1)))]) (rest := []) (lenOf pd_1 rfl) rfl (by show 2 * 0 + _ ≤ _; exact Nat.le_of_eq rfl) (hb hby d12_22) (fun _ _ => ⟨rfl, e18, (by decide : 0 + 0 ≤ _), (by decide : 0 + 0 ≤ _)⟩)
      dsimp only [Pt.U, Pt.locs, Pt.cells, Pt.slots] at X31 l31 y31 z31 st31 hQ31
      have l31 := l31.symm; have y31 := y31.symm; have z31 := z31.symm; subst l31 y31 z31
      have X31 : Stand p l e ({ frames := 1, cells := 0, slots := 0, locals := 13 } : Room) s m #[(.ref a1), (.int 1)] below meth c T31 _ 0 0 := X31
      obtain ⟨rfl, M31, e31⟩ := hQ31
      have N31 := Fr.app N17 M31
      refine Goes.on (fun t k => st31.trans k) ?_
      show Goes p e below QQ (T31.setTop (mkF m 25 #[rv a1, iv 1, iv (afF (stF x1))] [(.int (afF (afF (stF x1))))]))
      refine G1 (XS.istoreN X31.here hx rfl (hb hby d12_25) rfl (l' := #[rv a1, iv 1, iv (afF (afF (stF x1)))]) rfl) ?_
      refine G1 (XS.goto X31.here hx rfl (pc0 := 26) (pc' := 11) rfl (hb hby d12_26) (by decide) (by decide)) ?_
      refine G1 (XS.aloadN X31.here hx rfl (hb hby d12_11) rfl rfl) ?_
      show Goes p e below QQ (T31.setTop (mkF m 12 #[rv a1, iv 1, iv (afF (afF (stF x1)))] [(.ref a1)]))
      obtain ⟨T32, X32, e32, st32⟩ := getF X31 hx hZ hown (host := "") (Or.inl (wI hw 29 rfl)) Via.refl e31 F_slots_a1 (g := (mkF m 12 #[rv a1, iv 1, iv (afF (afF (stF x1)))] [(.ref a1)])) rfl rfl (hb hby d12_12)
      refine Goes.on (fun t k => st32 t k) ?_
      show Goes p e below QQ (T32.setTop (mkF m 15 #[rv a1, iv 1, iv (afF (afF (stF x1)))] [(.ref d1)]))
      refine G1 (XS.iloadN X32.here hx rfl (hb hby d12_15) rfl) ?_
      show Goes p e below QQ (T32.setTop (mkF m 16 #[rv a1, iv 1, iv (afF (afF (stF x1)))] [(.int (afF (afF (stF x1)))), (.ref d1)]))
      obtain ⟨cl33, Ar33, aq33, aS33, aN33, aH33, aG33⟩ := id V_d1
      have hin33 := inb_of (j := (afF (afF (stF x1)))) aS33 (own_af (afF (stF x1)))
      have hat33 := Has.at (v := (.int (gi S (afF (afF (stF x1)))))) aH33 hin33 (HS.2 _)
      refine Goes.on (fun t k => X32.iaload hx (j := (afF (afF (stF x1)))) (v := (.int (gi S (afF (afF (stF x1)))))) (by rw [e32]; exact Ar33.1) (State.isArrayOf_alike hZ.alike Ar33.2.1) Ar33.2.2 hin33 hat33 (g := (mkF m 16 #[rv a1, iv 1, iv (afF (afF (stF x1)))] [(.int (afF (afF (stF x1)))), (.ref d1)])) rfl rfl (hb hby d12_16) t k) ?_
      show Goes p e below QQ (T32.setTop (mkF m 17 #[rv a1, iv 1, iv (afF (afF (stF x1)))] [(.int (gi S (afF (afF (stF x1)))))]))
      refine G1 (XS.ifYes X32.here hx rfl (pc0 := 17) (pc' := 29) rfl (hb hby d12_17) rfl ((if0 _ _).trans (teq (HF hb6 hb20)).1) (by decide) (by decide)) ?_
      show Gs p e below QQ T32 m 29 #[rv a1, iv 1, iv (afF (afF (stF x1)))] []
      refine G1 (XS.aloadN X32.here hx rfl (hb hby d12_29) rfl rfl) ?_
      show Goes p e below QQ (T32.setTop (mkF m 30 #[rv a1, iv 1, iv (afF (afF (stF x1)))] [(.ref a1)]))
      obtain ⟨T34, X34, e34, st34⟩ := getF X32 hx hZ hown (host := "") (Or.inl (wI hw 29 rfl)) Via.refl e32 F_slots_a1 (g := (mkF m 30 #[rv a1, iv 1, iv (afF (afF (stF x1)))] [(.ref a1)])) rfl rfl (hb hby d12_30)
      refine Goes.on (fun t k => st34 t k) ?_
      show Goes p e below QQ (T34.setTop (mkF m 33 #[rv a1, iv 1, iv (afF (afF (stF x1)))] [(.ref d1)]))
      refine G1 (XS.iloadN X34.here hx rfl (hb hby d12_33) rfl) ?_
      refine G1 (XS.iloadN X34.here hx rfl (hb hby d12_34) rfl) ?_
      refine G1 (XS.iconst X34.here hx rfl (hb hby d12_35)) ?_
      show Gs p e below QQ T34 m 36 #[rv a1, iv 1, iv (afF (afF (stF x1)))] [(.int 1), (.int 1), (.int (afF (afF (stF x1)))), (.ref d1)]
      refine G1 (XS.iadd X34.here hx rfl (hb hby d12_36) rfl) ?_
      show Goes p e below QQ (T34.setTop (mkF m 37 #[rv a1, iv 1, iv (afF (afF (stF x1)))] [(.int ((1 : Int32) + (1 : Int32))), (.int (afF (afF (stF x1)))), (.ref d1)]))
      rw [(by decide : ((1 : Int32) + (1 : Int32)) = (2 : Int32))]
      show Goes p e below QQ (T34.setTop (mkF m 37 #[rv a1, iv 1, iv (afF (afF (stF x1)))] [(.int 2), (.int (afF (afF (stF x1)))), (.ref d1)]))
      obtain ⟨cl35, Ar35, aq35, aS35, aN35, aH35, aG35⟩ := id V_d1
      have hin35 := inb_of (j := (afF (afF (stF x1)))) aS35 (own_af (afF (stF x1)))
      obtain ⟨T36, h36, X36, e36, W36, st36⟩ := stI X34 hx hZ e34 Ar35 (j := (afF (afF (stF x1)))) hin35 (g := (mkF m 37 #[rv a1, iv 1, iv (afF (afF (stF x1)))] [(.int 2), (.int (afF (afF (stF x1)))), (.ref d1)])) rfl rfl (hb hby d12_37)
      have E_37 := E_a1.wr W36
      have F_38 := F_hashes_a1.other W36 (Or.inl ne_a1_d1)
      have F_39 := F_slots_a1.other W36 (Or.inl ne_a1_d1)
      have F_40 := F_shift_a1.other W36 (Or.inl ne_a1_d1)
      have F_41 := F_size_a1.other W36 (Or.inl ne_a1_d1)
      have V_42 := V_b1.other W36 ne_b1_d1
      have K36 := K0.wr W36 (Or.inl (List.mem_of_getElem? (i := 0) rfl))
      have N36 := Fr.snoc X36 N31 g_d1
      have V_43 : Arv Z h36 d1 kd .int (32 : Int32) (S.set ((afF (afF (stF x1)))).toNatClampNeg (.int 2)) (.int 0) := Arv.set Ar35 aq35 aS35 aN35 aH35 aG35 rfl W36 ((afF (afF (stF x1)))).toNatClampNeg rfl (own_ltS (own_af (afF (stF x1))) HS)
      refine Goes.on (fun t k => st36 t k) ?_
      show Goes p e below QQ (T36.setTop (mkF m 38 #[rv a1, iv 1, iv (afF (afF (stF x1)))] []))
      exact Goes.rV X36 hx hret hlk (hb hby d12_38) hQQ (by rw [e36]; exact ⟨rfl, N36, K36, (by rw [(show prF S (stF x1) = (afF (afF (stF x1))) from ((if_neg hb6).trans ((if_neg hb20).trans rfl)))]; exact V_43)⟩) (by decide) (by decide)
theorem ef_rmPl_2 (m : MethodId) (x0 : Addr) (x1 : Int32) : entryFrame m #[(.ref x0), (.int x1)] 3 = mkF m 0 #[rv x0, iv x1, .unset] [] := by first | (simp [entryFrame, mkF, argsToLocals, Value.category]; done) | rfl
set_option maxRecDepth 65536 in
set_option maxHeartbeats 40000000 in
theorem rmPl_2 (l : Launch) (Z : State) (a0 : Array Value) (hw : ∀ d ∈ tables_1, d.before a0 Z = true) (ws : List Jvm.Cond) (a1 b1 d1 : Addr) (kb kd : ClassId) (nn x0 x1 x2 : Int32) (S : List Value) (h0 : Heap) (n0 : Nat) (Z0 : n0 ≤ h0.size) (E_a1 : Exa Z h0 a1 "com/example/bindery/bindery/PartIndex") (F_hashes_a1 : Fld Z h0 a1 "com/example/bindery/bindery/PartIndex" "hashes" "[I" (.ref b1)) (F_slots_a1 : Fld Z h0 a1 "com/example/bindery/bindery/PartIndex" "slots" "[I" (.ref d1)) (F_shift_a1 : Fld Z h0 a1 "com/example/bindery/bindery/PartIndex" "shift" "I" (.int 27)) (F_size_a1 : Fld Z h0 a1 "com/example/bindery/bindery/PartIndex" "size" "I" (.int 3)) (V_b1 : Arv Z h0 b1 kb .int nn [(.int x0), (.int x1), (.int x2)] (.int 0)) (V_d1 : Arv Z h0 d1 kd .int (32 : Int32) S (.int 0)) (g_d1 : n0 ≤ d1) (ne_a1_d1 : a1 ≠ d1) (ne_b1_d1 : b1 ≠ d1) (hN : (2 : Int32) < nn) (HS : IntS S) (HF : ¬ gi S (stF x2) = 0 → ¬ gi S (afF (stF x2)) = 0 → gi S (afF (afF (stF x2))) = 0) :
    MetFree l (⟨"com/example/bindery/bindery/PartIndex", "place", "(I)V"⟩ : MethodName) (head1 (Jvm.Cond.code (⟨"com/example/bindery/bindery/PartIndex", "place", "(I)V"⟩ : MethodName) prog_150_method_12_code 3 none :: ws) ({ frames := 1, cells := 0, slots := 0, locals := 13 } : Room)) (fun a U => a = #[(.ref a1), (.int 2)] ∧ Z.Warmed39 U.vm ∧ U.heap = h0) (fun _ _ _ _ _ => True) (fun _ U o U' => ∃ v L, o = .returned v ∧ QPl Z d1 kd (S.set (prF S (stF x2)).toNatClampNeg (.int (3 : Int32))) h0 n0 v U'.heap L ∧ FrameEnd U o U' L ({ frames := 1, cells := 0, slots := 0, locals := 13 } : Room).cells ({ frames := 1, cells := 0, slots := 0, locals := 13 } : Room).slots) := by
  refine own_enter pn_12 ?_
  intro p e s m below meth c s₁ QQ hQQ hx hby hml hown hnm hret hlk hZ X0 e0
  have hown : s.vm.findClass "com/example/bindery/bindery/PartIndex" = some m.cls := hown
  have hml : c.maxLocals = 3 := hml
  have hret : meth.sig.returnType = none := hret
  have N0 := Fr.nil n0
  have K0 := Keep.refl h0 [d1]
  refine Goes.cast (ef_rmPl_2 m a1 (2 : Int32)) ?_
  show Goes p e below QQ (s₁.setTop (mkF m 0 #[rv a1, iv 2, .unset] []))
  refine G1 (XS.aloadN X0.here hx rfl (hb hby d12_0) rfl rfl) ?_
  refine G1 (XS.aloadN X0.here hx rfl (hb hby d12_1) rfl rfl) ?_
  show Goes p e below QQ (s₁.setTop (mkF m 2 #[rv a1, iv 2, .unset] [(.ref a1), (.ref a1)]))
  obtain ⟨T1, X1, e1, st1⟩ := getF X0 hx hZ hown (host := "") (Or.inl (wI hw 21 rfl)) Via.refl e0 F_hashes_a1 (g := (mkF m 2 #[rv a1, iv 2, .unset] [(.ref a1), (.ref a1)])) rfl rfl (hb hby d12_2)
  refine Goes.on (fun t k => st1 t k) ?_
  show Goes p e below QQ (T1.setTop (mkF m 5 #[rv a1, iv 2, .unset] [(.ref b1), (.ref a1)]))
  refine G1 (XS.iloadN X1.here hx rfl (hb hby d12_5) rfl) ?_
  show Goes p e below QQ (T1.setTop (mkF m 6 #[rv a1, iv 2, .unset] [(.int 2), (.ref b1), (.ref a1)]))
  obtain ⟨cl2, Ar2, aq2, aS2, aN2, aH2, aG2⟩ := id V_b1
  have hin2 := inb_of (j := (2 : Int32)) aS2 ⟨by decide, hN⟩
  have hat2 := Has.at (v := (.int x2)) aH2 hin2 rfl
  refine Goes.on (fun t k => X1.iaload hx (j := (2 : Int32)) (v := (.int x2)) (by rw [e1]; exact Ar2.1) (State.isArrayOf_alike hZ.alike Ar2.2.1) Ar2.2.2 hin2 hat2 (g := (mkF m 6 #[rv a1, iv 2, .unset] [(.int 2), (.ref b1), (.ref a1)])) rfl rfl (hb hby d12_6) t k) ?_
  show Goes p e below QQ (T1.setTop (mkF m 7 #[rv a1, iv 2, .unset] [(.int x2), (.ref a1)]))
  obtain ⟨cq3, kq3, q3a, q3b, q3c⟩ := isOf hZ e1 E_a1
  obtain ⟨_, _, ⟨T3, L3, k3, n3⟩, -, X3, ⟨Lc3, hQ3, l3, y3, z3⟩, st3⟩ := X1.virtualBack hx (y := (⟨"com/example/bindery/bindery/PartIndex", "start", "(I)I"⟩ : MethodName)) (z := (⟨"com/example/bindery/bindery/PartIndex", "start", "(I)I"⟩ : MethodName)) hown (mvT hZ (wI hw 66 rfl)) (mvT hZ (wI hw 67 rfl)) (notFace_of_selects (args := #[]) (mvT hZ (wI hw 69 rfl))) (mvT hZ (wI hw 69 rfl)) (mvT hZ (wI hw 68 rfl)) (by decide) (backOf (W := 0) (rmSt l Z a0 hw [] a1 x2 d1 h0 n0 (Nat.le_trans Z0 K0.1) F_slots_a1 F_shift_a1) hZ (wI hw 70 rfl) (wI hw 2 rfl) (by decide) (by decide)) q3a q3c (g := (mkF m 7 #[rv a1, iv 2, .unset] [(.int x2), (.ref a1)])) rfl (by rw [hml]; rfl) (Steps.refl _) (argsL := [(.int x2)]) (rest := []) (lenOf pd_1 rfl) rfl (by show 2 * 0 + _ ≤ _; exact Nat.le_of_eq rfl) (hb hby d12_7) (fun _ _ => ⟨rfl, e1, (by decide : 0 + 0 ≤ _), (by decide : 0 + 0 ≤ _)⟩)
  dsimp only [Pt.U, Pt.locs, Pt.cells, Pt.slots] at X3 l3 y3 z3 st3 hQ3
  have l3 := l3.symm; have y3 := y3.symm; have z3 := z3.symm; subst l3 y3 z3
  have X3 : Stand p l e ({ frames := 1, cells := 0, slots := 0, locals := 13 } : Room) s m #[(.ref a1), (.int 2)] below meth c T3 _ 0 0 := X3
  obtain ⟨rfl, M3, e3⟩ := hQ3
  have N3 := Fr.app N0 M3
  refine Goes.on (fun t k => st3.trans k) ?_
  show Goes p e below QQ (T3.setTop (mkF m 10 #[rv a1, iv 2, .unset] [(.int (stF x2))]))
  refine G1 (XS.istoreN X3.here hx rfl (hb hby d12_10) rfl (l' := #[rv a1, iv 2, iv (stF x2)]) rfl) ?_
  refine G1 (XS.aloadN X3.here hx rfl (hb hby d12_11) rfl rfl) ?_
  show Goes p e below QQ (T3.setTop (mkF m 12 #[rv a1, iv 2, iv (stF x2)] [(.ref a1)]))
  obtain ⟨T4, X4, e4, st4⟩ := getF X3 hx hZ hown (host := "") (Or.inl (wI hw 29 rfl)) Via.refl e3 F_slots_a1 (g := (mkF m 12 #[rv a1, iv 2, iv (stF x2)] [(.ref a1)])) rfl rfl (hb hby d12_12)
  refine Goes.on (fun t k => st4 t k) ?_
  show Goes p e below QQ (T4.setTop (mkF m 15 #[rv a1, iv 2, iv (stF x2)] [(.ref d1)]))
  refine G1 (XS.iloadN X4.here hx rfl (hb hby d12_15) rfl) ?_
  show Goes p e below QQ (T4.setTop (mkF m 16 #[rv a1, iv 2, iv (stF x2)] [(.int (stF x2)), (.ref d1)]))
  obtain ⟨cl5, Ar5, aq5, aS5, aN5, aH5, aG5⟩ := id V_d1
  have hin5 := inb_of (j := (stF x2)) aS5 (own_st x2)
  have hat5 := Has.at (v := (.int (gi S (stF x2)))) aH5 hin5 (HS.2 _)
  refine Goes.on (fun t k => X4.iaload hx (j := (stF x2)) (v := (.int (gi S (stF x2)))) (by rw [e4]; exact Ar5.1) (State.isArrayOf_alike hZ.alike Ar5.2.1) Ar5.2.2 hin5 hat5 (g := (mkF m 16 #[rv a1, iv 2, iv (stF x2)] [(.int (stF x2)), (.ref d1)])) rfl rfl (hb hby d12_16) t k) ?_
  show Goes p e below QQ (T4.setTop (mkF m 17 #[rv a1, iv 2, iv (stF x2)] [(.int (gi S (stF x2)))]))
  by_cases hb6 : (gi S (stF x2)) = (0 : Int32)
  · refine G1 (XS.ifYes X4.here hx rfl (pc0 := 17) (pc' := 29) rfl (hb hby d12_17) rfl ((if0 _ _).trans (teq hb6).1) (by decide) (by decide)) ?_
    show Gs p e below QQ T4 m 29 #[rv a1, iv 2, iv (stF x2)] []
    refine G1 (XS.aloadN X4.here hx rfl (hb hby d12_29) rfl rfl) ?_
    show Goes p e below QQ (T4.setTop (mkF m 30 #[rv a1, iv 2, iv (stF x2)] [(.ref a1)]))
    obtain ⟨T7, X7, e7, st7⟩ := getF X4 hx hZ hown (host := "") (Or.inl (wI hw 29 rfl)) Via.refl e4 F_slots_a1 (g := (mkF m 30 #[rv a1, iv 2, iv (stF x2)] [(.ref a1)])) rfl rfl (hb hby d12_30)
    refine Goes.on (fun t k => st7 t k) ?_
    show Goes p e below QQ (T7.setTop (mkF m 33 #[rv a1, iv 2, iv (stF x2)] [(.ref d1)]))
    refine G1 (XS.iloadN X7.here hx rfl (hb hby d12_33) rfl) ?_
    refine G1 (XS.iloadN X7.here hx rfl (hb hby d12_34) rfl) ?_
    refine G1 (XS.iconst X7.here hx rfl (hb hby d12_35)) ?_
    show Gs p e below QQ T7 m 36 #[rv a1, iv 2, iv (stF x2)] [(.int 1), (.int 2), (.int (stF x2)), (.ref d1)]
    refine G1 (XS.iadd X7.here hx rfl (hb hby d12_36) rfl) ?_
    show Goes p e below QQ (T7.setTop (mkF m 37 #[rv a1, iv 2, iv (stF x2)] [(.int ((2 : Int32) + (1 : Int32))), (.int (stF x2)), (.ref d1)]))
    rw [(by decide : ((2 : Int32) + (1 : Int32)) = (3 : Int32))]
    show Goes p e below QQ (T7.setTop (mkF m 37 #[rv a1, iv 2, iv (stF x2)] [(.int 3), (.int (stF x2)), (.ref d1)]))
    obtain ⟨cl8, Ar8, aq8, aS8, aN8, aH8, aG8⟩ := id V_d1
    have hin8 := inb_of (j := (stF x2)) aS8 (own_st x2)
    obtain ⟨T9, h9, X9, e9, W9, st9⟩ := stI X7 hx hZ e7 Ar8 (j := (stF x2)) hin8 (g := (mkF m 37 #[rv a1, iv 2, iv (stF x2)] [(.int 3), (.int (stF x2)), (.ref d1)])) rfl rfl (hb hby d12_37)
    have E_10 := E_a1.wr W9
    have F_11 := F_hashes_a1.other W9 (Or.inl ne_a1_d1)
    have F_12 := F_slots_a1.other W9 (Or.inl ne_a1_d1)
    have F_13 := F_shift_a1.other W9 (Or.inl ne_a1_d1)
    have F_14 := F_size_a1.other W9 (Or.inl ne_a1_d1)
    have V_15 := V_b1.other W9 ne_b1_d1
    have K9 := K0.wr W9 (Or.inl (List.mem_of_getElem? (i := 0) rfl))
    have N9 := Fr.snoc X9 N3 g_d1
    have V_16 : Arv Z h9 d1 kd .int (32 : Int32) (S.set ((stF x2)).toNatClampNeg (.int 3)) (.int 0) := Arv.set Ar8 aq8 aS8 aN8 aH8 aG8 rfl W9 ((stF x2)).toNatClampNeg rfl (own_ltS (own_st x2) HS)
    refine Goes.on (fun t k => st9 t k) ?_
    show Goes p e below QQ (T9.setTop (mkF m 38 #[rv a1, iv 2, iv (stF x2)] []))
    exact Goes.rV X9 hx hret hlk (hb hby d12_38) hQQ (by rw [e9]; exact ⟨rfl, N9, K9, (by rw [(show prF S (stF x2) = (stF x2) from ((if_pos hb6).trans rfl))]; exact V_16)⟩) (by decide) (by decide)
  · refine G1 (XS.ifNo X4.here hx rfl (hb hby d12_17) rfl ((if0 _ _).trans (feq hb6).1)) ?_
    show Gs p e below QQ T4 m 20 #[rv a1, iv 2, iv (stF x2)] []
    refine G1 (XS.aloadN X4.here hx rfl (hb hby d12_20) rfl rfl) ?_
    refine G1 (XS.iloadN X4.here hx rfl (hb hby d12_21) rfl) ?_
    show Goes p e below QQ (T4.setTop (mkF m 22 #[rv a1, iv 2, iv (stF x2)] [(.int (stF x2)), (.ref a1)]))
    obtain ⟨cq17, kq17, q17a, q17b, q17c⟩ := isOf hZ e4 E_a1
    obtain ⟨_, _, ⟨T17, L17, k17, n17⟩, -, X17, ⟨Lc17, hQ17, l17, y17, z17⟩, st17⟩ := X4.virtualBack hx (y := (⟨"com/example/bindery/bindery/PartIndex", "after", "(I)I"⟩ : MethodName)) (z := (⟨"com/example/bindery/bindery/PartIndex", "after", "(I)I"⟩ : MethodName)) hown (mvT hZ (wI hw 72 rfl)) (mvT hZ (wI hw 73 rfl)) (notFace_of_selects (args := #[]) (mvT hZ (wI hw 75 rfl))) (mvT hZ (wI hw 75 rfl)) (mvT hZ (wI hw 74 rfl)) (by decide) (backOf (W := 0) (rmAf l Z a0 hw [] a1 (stF x2) d1 kd S h0 n0 (Nat.le_trans Z0 K0.1) F_slots_a1 V_d1) hZ (wI hw 76 rfl) (wI hw 2 rfl) (by decide) (by decide)) q17a q17c (g := (mkF m 22 #[rv a1, iv 2, iv (stF x2)] [(.int (stF x2)), (.ref a1)])) rfl (by rw [hml]; rfl) (Steps.refl _) (argsL := [(.int (stF x2))]) (rest := []) (lenOf pd_1 rfl) rfl (by show 2 * 0 + _ ≤ _; exact Nat.le_of_eq rfl) (hb hby d12_22) (fun _ _ => ⟨rfl, e4, (by decide : 0 + 0 ≤ _), (by decide : 0 + 0 ≤ _)⟩)
    dsimp only [Pt.U, Pt.locs, Pt.cells, Pt.slots] at X17 l17 y17 z17 st17 hQ17
    have l17 := l17.symm; have y17 := y17.symm; have z17 := z17.symm; subst l17 y17 z17
    have X17 : Stand p l e ({ frames := 1, cells := 0, slots := 0, locals := 13 } : Room) s m #[(.ref a1), (.int 2)] below meth c T17 _ 0 0 := X17
    obtain ⟨rfl, M17, e17⟩ := hQ17
    have N17 := Fr.app N3 M17
    refine Goes.on (fun t k => st17.trans k) ?_
    show Goes p e below QQ (T17.setTop (mkF m 25 #[rv a1, iv 2, iv (stF x2)] [(.int (afF (stF x2)))]))
    refine G1 (XS.istoreN X17.here hx rfl (hb hby d12_25) rfl (l' := #[rv a1, iv 2, iv (afF (stF x2))]) rfl) ?_
    refine G1 (XS.goto X17.here hx rfl (pc0 := 26) (pc' := 11) rfl (hb hby d12_26) (by decide) (by decide)) ?_
    refine G1 (XS.aloadN X17.here hx rfl (hb hby d12_11) rfl rfl) ?_
    show Goes p e below QQ (T17.setTop (mkF m 12 #[rv a1, iv 2, iv (afF (stF x2))] [(.ref a1)]))
    obtain ⟨T18, X18, e18, st18⟩ := getF X17 hx hZ hown (host := "") (Or.inl (wI hw 29 rfl)) Via.refl e17 F_slots_a1 (g := (mkF m 12 #[rv a1, iv 2, iv (afF (stF x2))] [(.ref a1)])) rfl rfl (hb hby d12_12)
    refine Goes.on (fun t k => st18 t k) ?_
    show Goes p e below QQ (T18.setTop (mkF m 15 #[rv a1, iv 2, iv (afF (stF x2))] [(.ref d1)]))
    refine G1 (XS.iloadN X18.here hx rfl (hb hby d12_15) rfl) ?_
    show Goes p e below QQ (T18.setTop (mkF m 16 #[rv a1, iv 2, iv (afF (stF x2))] [(.int (afF (stF x2))), (.ref d1)]))
    obtain ⟨cl19, Ar19, aq19, aS19, aN19, aH19, aG19⟩ := id V_d1
    have hin19 := inb_of (j := (afF (stF x2))) aS19 (own_af (stF x2))
    have hat19 := Has.at (v := (.int (gi S (afF (stF x2))))) aH19 hin19 (HS.2 _)
    refine Goes.on (fun t k => X18.iaload hx (j := (afF (stF x2))) (v := (.int (gi S (afF (stF x2))))) (by rw [e18]; exact Ar19.1) (State.isArrayOf_alike hZ.alike Ar19.2.1) Ar19.2.2 hin19 hat19 (g := (mkF m 16 #[rv a1, iv 2, iv (afF (stF x2))] [(.int (afF (stF x2))), (.ref d1)])) rfl rfl (hb hby d12_16) t k) ?_
    show Goes p e below QQ (T18.setTop (mkF m 17 #[rv a1, iv 2, iv (afF (stF x2))] [(.int (gi S (afF (stF x2))))]))
    by_cases hb20 : (gi S (afF (stF x2))) = (0 : Int32)
    · refine G1 (XS.ifYes X18.here hx rfl (pc0 := 17) (pc' := 29) rfl (hb hby d12_17) rfl ((if0 _ _).trans (teq hb20).1) (by decide) (by decide)) ?_
      show Gs p e below QQ T18 m 29 #[rv a1, iv 2, iv (afF (stF x2))] []
      refine G1 (XS.aloadN X18.here hx rfl (hb hby d12_29) rfl rfl) ?_
      show Goes p e below QQ (T18.setTop (mkF m 30 #[rv a1, iv 2, iv (afF (stF x2))] [(.ref a1)]))
      obtain ⟨T21, X21, e21, st21⟩ := getF X18 hx hZ hown (host := "") (Or.inl (wI hw 29 rfl)) Via.refl e18 F_slots_a1 (g := (mkF m 30 #[rv a1, iv 2, iv (afF (stF x2))] [(.ref a1)])) rfl rfl (hb hby d12_30)
      refine Goes.on (fun t k => st21 t k) ?_
      show Goes p e below QQ (T21.setTop (mkF m 33 #[rv a1, iv 2, iv (afF (stF x2))] [(.ref d1)]))
      refine G1 (XS.iloadN X21.here hx rfl (hb hby d12_33) rfl) ?_
      refine G1 (XS.iloadN X21.here hx rfl (hb hby d12_34) rfl) ?_
      refine G1 (XS.iconst X21.here hx rfl (hb hby d12_35)) ?_
      show Gs p e below QQ T21 m 36 #[rv a1, iv 2, iv (afF (stF x2))] [(.int 1), (.int 2), (.int (afF (stF x2))), (.ref d1)]
      refine G1 (XS.iadd X21.here hx rfl (hb hby d12_36) rfl) ?_
      show Goes p e below QQ (T21.setTop (mkF m 37 #[rv a1, iv 2, iv (afF (stF x2))] [(.int ((2 : Int32) + (1 : Int32))), (.int (afF (stF x2))), (.ref d1)]))
      rw [(by decide : ((2 : Int32) + (1 : Int32)) = (3 : Int32))]
      show Goes p e below QQ (T21.setTop (mkF m 37 #[rv a1, iv 2, iv (afF (stF x2))] [(.int 3), (.int (afF (stF x2))), (.ref d1)]))
      obtain ⟨cl22, Ar22, aq22, aS22, aN22, aH22, aG22⟩ := id V_d1
      have hin22 := inb_of (j := (afF (stF x2))) aS22 (own_af (stF x2))
      obtain ⟨T23, h23, X23, e23, W23, st23⟩ := stI X21 hx hZ e21 Ar22 (j := (afF (stF x2))) hin22 (g := (mkF m 37 #[rv a1, iv 2, iv (afF (stF x2))] [(.int 3), (.int (afF (stF x2))), (.ref d1)])) rfl rfl (hb hby d12_37)
      have E_24 := E_a1.wr W23
      have F_25 := F_hashes_a1.other W23 (Or.inl ne_a1_d1)
      have F_26 := F_slots_a1.other W23 (Or.inl ne_a1_d1)
      have F_27 := F_shift_a1.other W23 (Or.inl ne_a1_d1)
      have F_28 := F_size_a1.other W23 (Or.inl ne_a1_d1)
      have V_29 := V_b1.other W23 ne_b1_d1
      have K23 := K0.wr W23 (Or.inl (List.mem_of_getElem? (i := 0) rfl))
      have N23 := Fr.snoc X23 N17 g_d1
      have V_30 : Arv Z h23 d1 kd .int (32 : Int32) (S.set ((afF (stF x2))).toNatClampNeg (.int 3)) (.int 0) := Arv.set Ar22 aq22 aS22 aN22 aH22 aG22 rfl W23 ((afF (stF x2))).toNatClampNeg rfl (own_ltS (own_af (stF x2)) HS)
      refine Goes.on (fun t k => st23 t k) ?_
      show Goes p e below QQ (T23.setTop (mkF m 38 #[rv a1, iv 2, iv (afF (stF x2))] []))
      exact Goes.rV X23 hx hret hlk (hb hby d12_38) hQQ (by rw [e23]; exact ⟨rfl, N23, K23, (by rw [(show prF S (stF x2) = (afF (stF x2)) from ((if_neg hb6).trans ((if_pos hb20).trans rfl)))]; exact V_30)⟩) (by decide) (by decide)
    · refine G1 (XS.ifNo X18.here hx rfl (hb hby d12_17) rfl ((if0 _ _).trans (feq hb20).1)) ?_
      show Gs p e below QQ T18 m 20 #[rv a1, iv 2, iv (afF (stF x2))] []
      refine G1 (XS.aloadN X18.here hx rfl (hb hby d12_20) rfl rfl) ?_
      refine G1 (XS.iloadN X18.here hx rfl (hb hby d12_21) rfl) ?_
      show Goes p e below QQ (T18.setTop (mkF m 22 #[rv a1, iv 2, iv (afF (stF x2))] [(.int (afF (stF x2))), (.ref a1)]))
      obtain ⟨cq31, kq31, q31a, q31b, q31c⟩ := isOf hZ e18 E_a1
      obtain ⟨_, _, ⟨T31, L31, k31, n31⟩, -, X31, ⟨Lc31, hQ31, l31, y31, z31⟩, st31⟩ := X18.virtualBack hx (y := (⟨"com/example/bindery/bindery/PartIndex", "after", "(I)I"⟩ : MethodName)) (z := (⟨"com/example/bindery/bindery/PartIndex", "after", "(I)I"⟩ : MethodName)) hown (mvT hZ (wI hw 72 rfl)) (mvT hZ (wI hw 73 rfl)) (notFace_of_selects (args := #[]) (mvT hZ (wI hw 75 rfl))) (mvT hZ (wI hw 75 rfl)) (mvT hZ (wI hw 74 rfl)) (by decide) (backOf (W := 0) (rmAf l Z a0 hw [] a1 (afF (stF x2)) d1 kd S h0 n0 (Nat.le_trans Z0 K0.1) F_slots_a1 V_d1) hZ (wI hw 76 rfl) (wI hw 2 rfl) (by decide) (by decide)) q31a q31c (g := (mkF m 22 #[rv a1, iv 2, iv (afF (stF x2))] [(.int (afF (stF x2))), (.ref a1)])) rfl (by rw [hml]; rfl) (Steps.refl _) (argsL := [(.int (afF (stF x2)))]) (rest := []) (lenOf pd_1 rfl) rfl (by show 2 * 0 + _ ≤ _; exact Nat.le_of_eq rfl) (hb hby d12_22) (fun _ _ => ⟨rfl, e18, (by decide : 0 + 0 ≤ _), (by decide : 0 + 0 ≤ _)⟩)
      dsimp only [Pt.U, Pt.locs, Pt.cells, Pt.slots] at X31 l31 y31 z31 st31 hQ31
      have l31 := l31.symm; have y31 := y31.symm; have z31 := z31.symm; subst l31 y31 z31
      have X31 : Stand p l e ({ frames := 1, cells := 0, slots := 0, locals := 13 } : Room) s m #[(.ref a1), (.int 2)] below meth c T31 _ 0 0 := X31
      obtain ⟨rfl, M31, e31⟩ := hQ31
      have N31 := Fr.app N17 M31
      refine Goes.on (fun t k => st31.trans k) ?_
      show Goes p e below QQ (T31.setTop (mkF m 25 #[rv a1, iv 2, iv (afF (stF x2))] [(.int (afF (afF (stF x2))))]))
      refine G1 (XS.istoreN X31.here hx rfl (hb hby d12_25) rfl (l' := #[rv a1, iv 2, iv (afF (afF (stF x2)))]) rfl) ?_
      refine G1 (XS.goto X31.here hx rfl (pc0 := 26) (pc' := 11) rfl (hb hby d12_26) (by decide) (by decide)) ?_
      refine G1 (XS.aloadN X31.here hx rfl (hb hby d12_11) rfl rfl) ?_
      show Goes p e below QQ (T31.setTop (mkF m 12 #[rv a1, iv 2, iv (afF (afF (stF x2)))] [(.ref a1)]))
      obtain ⟨T32, X32, e32, st32⟩ := getF X31 hx hZ hown (host := "") (Or.inl (wI hw 29 rfl)) Via.refl e31 F_slots_a1 (g := (mkF m 12 #[rv a1, iv 2, iv (afF (afF (stF x2)))] [(.ref a1)])) rfl rfl (hb hby d12_12)
      refine Goes.on (fun t k => st32 t k) ?_
      show Goes p e below QQ (T32.setTop (mkF m 15 #[rv a1, iv 2, iv (afF (afF (stF x2)))] [(.ref d1)]))
      refine G1 (XS.iloadN X32.here hx rfl (hb hby d12_15) rfl) ?_
      show Goes p e below QQ (T32.setTop (mkF m 16 #[rv a1, iv 2, iv (afF (afF (stF x2)))] [(.int (afF (afF (stF x2)))), (.ref d1)]))
      obtain ⟨cl33, Ar33, aq33, aS33, aN33, aH33, aG33⟩ := id V_d1
      have hin33 := inb_of (j := (afF (afF (stF x2)))) aS33 (own_af (afF (stF x2)))
      have hat33 := Has.at (v := (.int (gi S (afF (afF (stF x2)))))) aH33 hin33 (HS.2 _)
      refine Goes.on (fun t k => X32.iaload hx (j := (afF (afF (stF x2)))) (v := (.int (gi S (afF (afF (stF x2)))))) (by rw [e32]; exact Ar33.1) (State.isArrayOf_alike hZ.alike Ar33.2.1) Ar33.2.2 hin33 hat33 (g := (mkF m 16 #[rv a1, iv 2, iv (afF (afF (stF x2)))] [(.int (afF (afF (stF x2)))), (.ref d1)])) rfl rfl (hb hby d12_16) t k) ?_
      show Goes p e below QQ (T32.setTop (mkF m 17 #[rv a1, iv 2, iv (afF (afF (stF x2)))] [(.int (gi S (afF (afF (stF x2)))))]))
      refine G1 (XS.ifYes X32.here hx rfl (pc0 := 17) (pc' := 29) rfl (hb hby d12_17) rfl ((if0 _ _).trans (teq (HF hb6 hb20)).1) (by decide) (by decide)) ?_
      show Gs p e below QQ T32 m 29 #[rv a1, iv 2, iv (afF (afF (stF x2)))] []
      refine G1 (XS.aloadN X32.here hx rfl (hb hby d12_29) rfl rfl) ?_
      show Goes p e below QQ (T32.setTop (mkF m 30 #[rv a1, iv 2, iv (afF (afF (stF x2)))] [(.ref a1)]))
      obtain ⟨T34, X34, e34, st34⟩ := getF X32 hx hZ hown (host := "") (Or.inl (wI hw 29 rfl)) Via.refl e32 F_slots_a1 (g := (mkF m 30 #[rv a1, iv 2, iv (afF (afF (stF x2)))] [(.ref a1)])) rfl rfl (hb hby d12_30)
      refine Goes.on (fun t k => st34 t k) ?_
      show Goes p e below QQ (T34.setTop (mkF m 33 #[rv a1, iv 2, iv (afF (afF (stF x2)))] [(.ref d1)]))
      refine G1 (XS.iloadN X34.here hx rfl (hb hby d12_33) rfl) ?_
      refine G1 (XS.iloadN X34.here hx rfl (hb hby d12_34) rfl) ?_
      refine G1 (XS.iconst X34.here hx rfl (hb hby d12_35)) ?_
      show Gs p e below QQ T34 m 36 #[rv a1, iv 2, iv (afF (afF (stF x2)))] [(.int 1), (.int 2), (.int (afF (afF (stF x2)))), (.ref d1)]
      refine G1 (XS.iadd X34.here hx rfl (hb hby d12_36) rfl) ?_
      show Goes p e below QQ (T34.setTop (mkF m 37 #[rv a1, iv 2, iv (afF (afF (stF x2)))] [(.int ((2 : Int32) + (1 : Int32))), (.int (afF (afF (stF x2)))), (.ref d1)]))
      rw [(by decide : ((2 : Int32) + (1 : Int32)) = (3 : Int32))]
      show Goes p e below QQ (T34.setTop (mkF m 37 #[rv a1, iv 2, iv (afF (afF (stF x2)))] [(.int 3), (.int (afF (afF (stF x2)))), (.ref d1)]))
      obtain ⟨cl35, Ar35, aq35, aS35, aN35, aH35, aG35⟩ := id V_d1
      have hin35 := inb_of (j := (afF (afF (stF x2)))) aS35 (own_af (afF (stF x2)))
      obtain ⟨T36, h36, X36, e36, W36, st36⟩ := stI X34 hx hZ e34 Ar35 (j := (afF (afF (stF x2)))) hin35 (g := (mkF m 37 #[rv a1, iv 2, iv (afF (afF (stF x2)))] [(.int 3), (.int (afF (afF (stF x2)))), (.ref d1)])) rfl rfl (hb hby d12_37)
      have E_37 := E_a1.wr W36
      have F_38 := F_hashes_a1.other W36 (Or.inl ne_a1_d1)
      have F_39 := F_slots_a1.other W36 (Or.inl ne_a1_d1)
      have F_40 := F_shift_a1.other W36 (Or.inl ne_a1_d1)
      have F_41 := F_size_a1.other W36 (Or.inl ne_a1_d1)
      have V_42 := V_b1.other W36 ne_b1_d1
      have K36 := K0.wr W36 (Or.inl (List.mem_of_getElem? (i := 0) rfl))
      have N36 := Fr.snoc X36 N31 g_d1
      have V_43 : Arv Z h36 d1 kd .int (32 : Int32) (S.set ((afF (afF (stF x2)))).toNatClampNeg (.int 3)) (.int 0) := Arv.set Ar35 aq35 aS35 aN35 aH35 aG35 rfl W36 ((afF (afF (stF x2)))).toNatClampNeg rfl (own_ltS (own_af (afF (stF x2))) HS)
      refine Goes.on (fun t k => st36 t k) ?_
      show Goes p e below QQ (T36.setTop (mkF m 38 #[rv a1, iv 2, iv (afF (afF (stF x2)))] []))
      exact Goes.rV X36 hx hret hlk (hb hby d12_38) hQQ (by rw [e36]; exact ⟨rfl, N36, K36, (by rw [(show prF S (stF x2) = (afF (afF (stF x2))) from ((if_neg hb6).trans ((if_neg hb20).trans rfl)))]; exact V_43)⟩) (by decide) (by decide)
theorem ef_rmA1_0 (m : MethodId) (x0 : Addr) (x1 : Int32) : entryFrame m #[(.ref x0), (.int x1)] 2 = mkF m 0 #[rv x0, iv x1] [] := by first | (simp [entryFrame, mkF, argsToLocals, Value.category]; done) | rfl
set_option maxRecDepth 65536 in
set_option maxHeartbeats 40000000 in
theorem rmA1_0 (l : Launch) (Z : State) (a0 : Array Value) (hw : ∀ d ∈ tables_1, d.before a0 Z = true) (ws : List Jvm.Cond) (a1 b1 d1 : Addr) (p1 : Int32) (kb kd : ClassId) (nn x0 x1 x2 : Int32) (S : List Value) (h0 : Heap) (n0 : Nat) (Z0 : n0 ≤ h0.size) (E_a1 : Exa Z h0 a1 "com/example/bindery/bindery/PartIndex") (F_hashes_a1 : Fld Z h0 a1 "com/example/bindery/bindery/PartIndex" "hashes" "[I" (.ref b1)) (F_slots_a1 : Fld Z h0 a1 "com/example/bindery/bindery/PartIndex" "slots" "[I" (.ref d1)) (F_shift_a1 : Fld Z h0 a1 "com/example/bindery/bindery/PartIndex" "shift" "I" (.int 27)) (F_size_a1 : Fld Z h0 a1 "com/example/bindery/bindery/PartIndex" "size" "I" (.int 0)) (V_b1 : Arv Z h0 b1 kb .int nn [(.int x0), (.int x1), (.int x2)] (.int 0)) (V_d1 : Arv Z h0 d1 kd .int (32 : Int32) S (.int 0)) (g_a1 : n0 ≤ a1) (g_b1 : n0 ≤ b1) (g_d1 : n0 ≤ d1) (ne_a1_b1 : a1 ≠ b1) (ne_a1_d1 : a1 ≠ d1) (ne_b1_d1 : b1 ≠ d1) (hN : (0 : Int32) < nn) (HS : IntS S) (HF : ¬ gi S (stF p1) = 0 → ¬ gi S (afF (stF p1)) = 0 → gi S (afF (afF (stF p1))) = 0) :
    MetFree l (⟨"com/example/bindery/bindery/PartIndex", "add", "(I)V"⟩ : MethodName) (head1 (Jvm.Cond.code (⟨"com/example/bindery/bindery/PartIndex", "add", "(I)V"⟩ : MethodName) prog_150_method_9_code 2 none :: ws) ({ frames := 2, cells := 0, slots := 0, locals := 27 } : Room)) (fun a U => a = #[(.ref a1), (.int p1)] ∧ Z.Warmed39 U.vm ∧ U.heap = h0) (fun _ _ _ _ _ => True) (fun _ U o U' => ∃ v L, o = .returned v ∧ QA1 Z a1 b1 d1 kb kd nn (1 : Int32) p1 x1 x2 (S.set (prF S (stF p1)).toNatClampNeg (.int (1 : Int32))) h0 n0 v U'.heap L ∧ FrameEnd U o U' L ({ frames := 2, cells := 0, slots := 0, locals := 27 } : Room).cells ({ frames := 2, cells := 0, slots := 0, locals := 27 } : Room).slots) := by
  refine own_enter pn_8 ?_
  intro p e s m below meth c s₁ QQ hQQ hx hby hml hown hnm hret hlk hZ X0 e0
  have hown : s.vm.findClass "com/example/bindery/bindery/PartIndex" = some m.cls := hown
  have hml : c.maxLocals = 2 := hml
  have hret : meth.sig.returnType = none := hret
  have N0 := Fr.nil n0
  have K0 := Keep.refl h0 [a1, b1, d1]
  refine Goes.cast (ef_rmA1_0 m a1 p1) ?_
  show Goes p e below QQ (s₁.setTop (mkF m 0 #[rv a1, iv p1] []))
  refine G1 (XS.aloadN X0.here hx rfl (hb hby d8_0) rfl rfl) ?_
  show Goes p e below QQ (s₁.setTop (mkF m 1 #[rv a1, iv p1] [(.ref a1)]))
  obtain ⟨T1, X1, e1, st1⟩ := getF X0 hx hZ hown (host := "") (Or.inl (wI hw 31 rfl)) Via.refl e0 F_size_a1 (g := (mkF m 1 #[rv a1, iv p1] [(.ref a1)])) rfl rfl (hb hby d8_1)
  refine Goes.on (fun t k => st1 t k) ?_
  show Goes p e below QQ (T1.setTop (mkF m 4 #[rv a1, iv p1] [(.int 0)]))
  refine G1 (XS.aloadN X1.here hx rfl (hb hby d8_4) rfl rfl) ?_
  show Goes p e below QQ (T1.setTop (mkF m 5 #[rv a1, iv p1] [(.ref a1), (.int 0)]))
  obtain ⟨T2, X2, e2, st2⟩ := getF X1 hx hZ hown (host := "") (Or.inl (wI hw 21 rfl)) Via.refl e1 F_hashes_a1 (g := (mkF m 5 #[rv a1, iv p1] [(.ref a1), (.int 0)])) rfl rfl (hb hby d8_5)
  refine Goes.on (fun t k => st2 t k) ?_
  show Goes p e below QQ (T2.setTop (mkF m 8 #[rv a1, iv p1] [(.ref b1), (.int 0)]))
  obtain ⟨cl3, Ar3, aq3, aS3, aN3, aH3, aG3⟩ := id V_b1
  refine Goes.on (fun t k => X2.arraylength hx (by rw [e2]; exact Ar3.1) (State.isArrayOf_alike hZ.alike Ar3.2.1) (g := (mkF m 8 #[rv a1, iv p1] [(.ref b1), (.int 0)])) rfl rfl (hb hby d8_8) t k) ?_
  rw [len_of aS3 aN3]
  show Goes p e below QQ (T2.setTop (mkF m 9 #[rv a1, iv p1] [(.int nn), (.int 0)]))
  refine G1 (XS.icmpYes X2.here hx rfl (pc0 := 9) (pc' := 33) rfl (hb hby d8_9) rfl (feq (own_neq (0 : Int32) nn hN)).2 (by decide) (by decide)) ?_
  show Gs p e below QQ T2 m 33 #[rv a1, iv p1] []
  refine G1 (XS.aloadN X2.here hx rfl (hb hby d8_33) rfl rfl) ?_
  show Goes p e below QQ (T2.setTop (mkF m 34 #[rv a1, iv p1] [(.ref a1)]))
  obtain ⟨T4, X4, e4, st4⟩ := getF X2 hx hZ hown (host := "") (Or.inl (wI hw 21 rfl)) Via.refl e2 F_hashes_a1 (g := (mkF m 34 #[rv a1, iv p1] [(.ref a1)])) rfl rfl (hb hby d8_34)
  refine Goes.on (fun t k => st4 t k) ?_
  show Goes p e below QQ (T4.setTop (mkF m 37 #[rv a1, iv p1] [(.ref b1)]))
  refine G1 (XS.aloadN X4.here hx rfl (hb hby d8_37) rfl rfl) ?_
  show Goes p e below QQ (T4.setTop (mkF m 38 #[rv a1, iv p1] [(.ref a1), (.ref b1)]))
  obtain ⟨T5, X5, e5, st5⟩ := getF X4 hx hZ hown (host := "") (Or.inl (wI hw 31 rfl)) Via.refl e4 F_size_a1 (g := (mkF m 38 #[rv a1, iv p1] [(.ref a1), (.ref b1)])) rfl rfl (hb hby d8_38)
  refine Goes.on (fun t k => st5 t k) ?_
  show Goes p e below QQ (T5.setTop (mkF m 41 #[rv a1, iv p1] [(.int 0), (.ref b1)]))
  refine G1 (XS.iloadN X5.here hx rfl (hb hby d8_41) rfl) ?_
  show Goes p e below QQ (T5.setTop (mkF m 42 #[rv a1, iv p1] [(.int p1), (.int 0), (.ref b1)]))
  obtain ⟨cl6, Ar6, aq6, aS6, aN6, aH6, aG6⟩ := id V_b1
  have hin6 := inb_of (j := (0 : Int32)) aS6 ⟨by decide, hN⟩
  obtain ⟨T7, h7, X7, e7, W7, st7⟩ := stI X5 hx hZ e5 Ar6 (j := (0 : Int32)) hin6 (g := (mkF m 42 #[rv a1, iv p1] [(.int p1), (.int 0), (.ref b1)])) rfl rfl (hb hby d8_42)
  have E_8 := E_a1.wr W7
  have F_9 := F_hashes_a1.other W7 (Or.inl ne_a1_b1)
  have F_10 := F_slots_a1.other W7 (Or.inl ne_a1_b1)
  have F_11 := F_shift_a1.other W7 (Or.inl ne_a1_b1)
  have F_12 := F_size_a1.other W7 (Or.inl ne_a1_b1)
  have V_13 := V_d1.other W7 (Ne.symm ne_b1_d1)
  have K7 := K0.wr W7 (Or.inl (List.mem_of_getElem? (i := 1) rfl))
  have N7 := Fr.snoc X7 N0 g_b1
  have V_14 : Arv Z h7 b1 kb .int nn [(.int p1), (.int x1), (.int x2)] (.int 0) := Arv.set Ar6 aq6 aS6 aN6 aH6 aG6 rfl W7 0 rfl (Nat.le_of_ble_eq_true rfl)
  refine Goes.on (fun t k => st7 t k) ?_
  show Goes p e below QQ (T7.setTop (mkF m 43 #[rv a1, iv p1] []))
  refine G1 (XS.aloadN X7.here hx rfl (hb hby d8_43) rfl rfl) ?_
  refine G1 (XS.dup X7.here hx rfl (hb hby d8_44) rfl rfl) ?_
  show Goes p e below QQ (T7.setTop (mkF m 45 #[rv a1, iv p1] [(.ref a1), (.ref a1)]))
  obtain ⟨T15, X15, e15, st15⟩ := getF X7 hx hZ hown (host := "") (Or.inl (wI hw 31 rfl)) Via.refl e7 F_12 (g := (mkF m 45 #[rv a1, iv p1] [(.ref a1), (.ref a1)])) rfl rfl (hb hby d8_45)
  refine Goes.on (fun t k => st15 t k) ?_
  show Goes p e below QQ (T15.setTop (mkF m 48 #[rv a1, iv p1] [(.int 0), (.ref a1)]))
  refine G1 (XS.iconst X15.here hx rfl (hb hby d8_48)) ?_
  show Gs p e below QQ T15 m 49 #[rv a1, iv p1] [(.int 1), (.int 0), (.ref a1)]
  refine G1 (XS.iadd X15.here hx rfl (hb hby d8_49) rfl) ?_
  show Goes p e below QQ (T15.setTop (mkF m 50 #[rv a1, iv p1] [(.int ((0 : Int32) + (1 : Int32))), (.ref a1)]))
  rw [(by decide : ((0 : Int32) + (1 : Int32)) = (1 : Int32))]
  show Goes p e below QQ (T15.setTop (mkF m 50 #[rv a1, iv p1] [(.int 1), (.ref a1)]))
  obtain ⟨T16, h16, X16, e16, W16, st16⟩ := putF X15 hx hZ hown (host := "") (Or.inl (wI hw 31 rfl)) Via.refl e15 F_12 E_8 (Or.inl (wI hw 32 rfl)) (wI hw 1 rfl) (ty := .int) (by decide) rfl rfl (g := (mkF m 50 #[rv a1, iv p1] [(.int 1), (.ref a1)])) rfl rfl (hb hby d8_50)
  have E_17 := E_8.wr W16
  have F_18 := F_9.other W16 (Or.inr (slot_ne (Or.inl (wI hw 22 rfl)) (Or.inl (wI hw 32 rfl)) (by decide) (t := (.array .int)) (t' := .int) (by decide) (by decide)))
  have F_19 := F_10.other W16 (Or.inr (slot_ne (Or.inl (wI hw 30 rfl)) (Or.inl (wI hw 32 rfl)) (by decide) (t := (.array .int)) (t' := .int) (by decide) (by decide)))
  have F_20 := F_11.other W16 (Or.inr (slot_ne (Or.inl (wI hw 61 rfl)) (Or.inl (wI hw 32 rfl)) (by decide) (t := .int) (t' := .int) (by decide) (by decide)))
  have V_21 := V_14.other W16 (Ne.symm ne_a1_b1)
  have V_22 := V_13.other W16 (Ne.symm ne_a1_d1)
  have K16 := K7.wr W16 (Or.inl (List.mem_of_getElem? (i := 0) rfl))
  have N16 := Fr.snoc X16 N7 g_a1
  have F_23 : Fld Z h16 a1 "com/example/bindery/bindery/PartIndex" "size" "I" (.int 1) := F_12.same W16
  refine Goes.on (fun t k => st16 t k) ?_
  show Goes p e below QQ (T16.setTop (mkF m 53 #[rv a1, iv p1] []))
  refine G1 (XS.aloadN X16.here hx rfl (hb hby d8_53) rfl rfl) ?_
  show Goes p e below QQ (T16.setTop (mkF m 54 #[rv a1, iv p1] [(.ref a1)]))
  obtain ⟨T24, X24, e24, st24⟩ := getF X16 hx hZ hown (host := "") (Or.inl (wI hw 29 rfl)) Via.refl e16 F_19 (g := (mkF m 54 #[rv a1, iv p1] [(.ref a1)])) rfl rfl (hb hby d8_54)
  refine Goes.on (fun t k => st24 t k) ?_
  show Goes p e below QQ (T24.setTop (mkF m 57 #[rv a1, iv p1] [(.ref d1)]))
  refine G1 (XS.ifnonnullYes X24.here hx rfl (pc0 := 57) (pc' := 72) rfl (hb hby d8_57) rfl (by decide) (by decide)) ?_
  show Gs p e below QQ T24 m 72 #[rv a1, iv p1] []
  refine G1 (XS.iconst X24.here hx rfl (hb hby d8_72)) ?_
  refine G1 (XS.aloadN X24.here hx rfl (hb hby d8_73) rfl rfl) ?_
  show Goes p e below QQ (T24.setTop (mkF m 74 #[rv a1, iv p1] [(.ref a1), (.int 2)]))
  obtain ⟨T25, X25, e25, st25⟩ := getF X24 hx hZ hown (host := "") (Or.inl (wI hw 31 rfl)) Via.refl e24 F_23 (g := (mkF m 74 #[rv a1, iv p1] [(.ref a1), (.int 2)])) rfl rfl (hb hby d8_74)
  refine Goes.on (fun t k => st25 t k) ?_
  show Goes p e below QQ (T25.setTop (mkF m 77 #[rv a1, iv p1] [(.int 1), (.int 2)]))
  refine G1 (XS.imul X25.here hx rfl (hb hby d8_77) rfl) ?_
  show Goes p e below QQ (T25.setTop (mkF m 78 #[rv a1, iv p1] [(.int ((2 : Int32) * (1 : Int32)))]))
  rw [(by decide : ((2 : Int32) * (1 : Int32)) = (2 : Int32))]
  show Goes p e below QQ (T25.setTop (mkF m 78 #[rv a1, iv p1] [(.int 2)]))
  refine G1 (XS.aloadN X25.here hx rfl (hb hby d8_78) rfl rfl) ?_
  show Goes p e below QQ (T25.setTop (mkF m 79 #[rv a1, iv p1] [(.ref a1), (.int 2)]))
  obtain ⟨T26, X26, e26, st26⟩ := getF X25 hx hZ hown (host := "") (Or.inl (wI hw 29 rfl)) Via.refl e25 F_19 (g := (mkF m 79 #[rv a1, iv p1] [(.ref a1), (.int 2)])) rfl rfl (hb hby d8_79)
  refine Goes.on (fun t k => st26 t k) ?_
  show Goes p e below QQ (T26.setTop (mkF m 82 #[rv a1, iv p1] [(.ref d1), (.int 2)]))
  obtain ⟨cl27, Ar27, aq27, aS27, aN27, aH27, aG27⟩ := id V_22
  refine Goes.on (fun t k => X26.arraylength hx (by rw [e26]; exact Ar27.1) (State.isArrayOf_alike hZ.alike Ar27.2.1) (g := (mkF m 82 #[rv a1, iv p1] [(.ref d1), (.int 2)])) rfl rfl (hb hby d8_82) t k) ?_
  rw [len_of aS27 aN27]
  show Goes p e below QQ (T26.setTop (mkF m 83 #[rv a1, iv p1] [(.int 32), (.int 2)]))
  refine G1 (XS.icmpYes X26.here hx rfl (pc0 := 83) (pc' := 97) rfl (hb hby d8_83) rfl (flt (by decide)).2.2.2 (by decide) (by decide)) ?_
  show Gs p e below QQ T26 m 97 #[rv a1, iv p1] []
  refine G1 (XS.aloadN X26.here hx rfl (hb hby d8_97) rfl rfl) ?_
  show Goes p e below QQ (T26.setTop (mkF m 98 #[rv a1, iv p1] [(.ref a1)]))
  obtain ⟨T28, X28, e28, st28⟩ := getF X26 hx hZ hown (host := "") (Or.inl (wI hw 29 rfl)) Via.refl e26 F_19 (g := (mkF m 98 #[rv a1, iv p1] [(.ref a1)])) rfl rfl (hb hby d8_98)
  refine Goes.on (fun t k => st28 t k) ?_
  show Goes p e below QQ (T28.setTop (mkF m 101 #[rv a1, iv p1] [(.ref d1)]))
  refine G1 (XS.ifnullNo X28.here hx rfl (hb hby d8_101) rfl) ?_
  show Gs p e below QQ T28 m 104 #[rv a1, iv p1] []
  refine G1 (XS.aloadN X28.here hx rfl (hb hby d8_104) rfl rfl) ?_
  refine G1 (XS.aloadN X28.here hx rfl (hb hby d8_105) rfl rfl) ?_
  show Goes p e below QQ (T28.setTop (mkF m 106 #[rv a1, iv p1] [(.ref a1), (.ref a1)]))
  obtain ⟨T29, X29, e29, st29⟩ := getF X28 hx hZ hown (host := "") (Or.inl (wI hw 31 rfl)) Via.refl e28 F_23 (g := (mkF m 106 #[rv a1, iv p1] [(.ref a1), (.ref a1)])) rfl rfl (hb hby d8_106)
  refine Goes.on (fun t k => st29 t k) ?_
  show Goes p e below QQ (T29.setTop (mkF m 109 #[rv a1, iv p1] [(.int 1), (.ref a1)]))
  refine G1 (XS.iconst X29.here hx rfl (hb hby d8_109)) ?_
  show Gs p e below QQ T29 m 110 #[rv a1, iv p1] [(.int 1), (.int 1), (.ref a1)]
  refine G1 (XS.isub X29.here hx rfl (hb hby d8_110) rfl) ?_
  show Goes p e below QQ (T29.setTop (mkF m 111 #[rv a1, iv p1] [(.int ((1 : Int32) - (1 : Int32))), (.ref a1)]))
  rw [(by decide : ((1 : Int32) - (1 : Int32)) = (0 : Int32))]
  show Goes p e below QQ (T29.setTop (mkF m 111 #[rv a1, iv p1] [(.int 0), (.ref a1)]))
  obtain ⟨cq30, q30, q30'⟩ := E_17.cell
  obtain ⟨_, _, ⟨T30, L30, k30, n30⟩, -, X30, ⟨Lc30, hQ30, l30, y30, z30⟩, st30⟩ := X29.privateBack hx (y := (⟨"com/example/bindery/bindery/PartIndex", "place", "(I)V"⟩ : MethodName)) hown (mvT hZ (wI hw 62 rfl)) (mvT hZ (wI hw 63 rfl)) (mvT hZ (own_selects (y := (⟨"com/example/bindery/bindery/PartIndex", "place", "(I)V"⟩ : MethodName)) (wI hw 63 rfl) (wI hw 64 rfl) (wI hw 1 rfl) (by decide))) (Cond.privateMethod_at (mvP hZ (wI hw 64 rfl) (args := #[]))) (mvT hZ (wI hw 65 rfl)) (by decide) (backOf (W := 0) (rmPl_0 l Z a0 hw [] a1 b1 d1 kb kd nn p1 x1 x2 S h16 n0 (Nat.le_trans Z0 K16.1) E_17 F_18 F_19 F_20 F_23 V_21 V_22 g_d1 ne_a1_d1 ne_b1_d1 hN HS HF) hZ (wI hw 65 rfl) (wI hw 2 rfl) (by decide) (by decide)) (g := (mkF m 111 #[rv a1, iv p1] [(.int 0), (.ref a1)])) rfl (by rw [hml]; rfl) (Steps.refl _) (a := a1) (by rw [e29]; exact q30) q30' (argsL := [(.int 0)]) (rest := []) (lenOf pd_2 rfl) rfl (by show 2 * 0 + _ ≤ _; exact Nat.le_of_eq rfl) (hb hby d8_111) (fun _ _ => ⟨rfl, e29, (by decide : 0 + 0 ≤ _), (by decide : 0 + 0 ≤ _)⟩)
  dsimp only [Pt.U, Pt.locs, Pt.cells, Pt.slots] at X30 l30 y30 z30 st30 hQ30
  have l30 := l30.symm; have y30 := y30.symm; have z30 := z30.symm; subst l30 y30 z30
  have X30 : Stand p l e ({ frames := 2, cells := 0, slots := 0, locals := 27 } : Room) s m #[(.ref a1), (.int p1)] below meth c T30 _ 0 0 := X30
  obtain ⟨rfl, M30, Kp, Vp⟩ := hQ30
  have N30 := Fr.app N16 M30
  refine Goes.on (fun t k => st30.trans k) ?_
  have E_31 := E_17.keep Kp
  have F_32 := F_18.keep Kp (ninS ne_a1_d1 nin0)
  have F_33 := F_19.keep Kp (ninS ne_a1_d1 nin0)
  have F_34 := F_20.keep Kp (ninS ne_a1_d1 nin0)
  have F_35 := F_23.keep Kp (ninS ne_a1_d1 nin0)
  have V_36 := V_21.keep Kp (ninS ne_b1_d1 nin0)
  have K38 := K16.trans Kp (allS (Or.inl (List.mem_of_getElem? (i := 2) rfl)) all0)
  show Goes p e below QQ (T30.setTop (mkF m 114 #[rv a1, iv p1] []))
  exact Goes.rV X30 hx hret hlk (hb hby d8_114) hQQ ⟨rfl, N30, K38, ⟨F_32, F_33, F_34, F_35⟩, V_36, Vp⟩ (by decide) (by decide)
theorem ef_rmA1_1 (m : MethodId) (x0 : Addr) (x1 : Int32) : entryFrame m #[(.ref x0), (.int x1)] 2 = mkF m 0 #[rv x0, iv x1] [] := by first | (simp [entryFrame, mkF, argsToLocals, Value.category]; done) | rfl
set_option maxRecDepth 65536 in
set_option maxHeartbeats 40000000 in
theorem rmA1_1 (l : Launch) (Z : State) (a0 : Array Value) (hw : ∀ d ∈ tables_1, d.before a0 Z = true) (ws : List Jvm.Cond) (a1 b1 d1 : Addr) (p1 : Int32) (kb kd : ClassId) (nn x0 x1 x2 : Int32) (S : List Value) (h0 : Heap) (n0 : Nat) (Z0 : n0 ≤ h0.size) (E_a1 : Exa Z h0 a1 "com/example/bindery/bindery/PartIndex") (F_hashes_a1 : Fld Z h0 a1 "com/example/bindery/bindery/PartIndex" "hashes" "[I" (.ref b1)) (F_slots_a1 : Fld Z h0 a1 "com/example/bindery/bindery/PartIndex" "slots" "[I" (.ref d1)) (F_shift_a1 : Fld Z h0 a1 "com/example/bindery/bindery/PartIndex" "shift" "I" (.int 27)) (F_size_a1 : Fld Z h0 a1 "com/example/bindery/bindery/PartIndex" "size" "I" (.int 1)) (V_b1 : Arv Z h0 b1 kb .int nn [(.int x0), (.int x1), (.int x2)] (.int 0)) (V_d1 : Arv Z h0 d1 kd .int (32 : Int32) S (.int 0)) (g_a1 : n0 ≤ a1) (g_b1 : n0 ≤ b1) (g_d1 : n0 ≤ d1) (ne_a1_b1 : a1 ≠ b1) (ne_a1_d1 : a1 ≠ d1) (ne_b1_d1 : b1 ≠ d1) (hN : (1 : Int32) < nn) (HS : IntS S) (HF : ¬ gi S (stF p1) = 0 → ¬ gi S (afF (stF p1)) = 0 → gi S (afF (afF (stF p1))) = 0) :
    MetFree l (⟨"com/example/bindery/bindery/PartIndex", "add", "(I)V"⟩ : MethodName) (head1 (Jvm.Cond.code (⟨"com/example/bindery/bindery/PartIndex", "add", "(I)V"⟩ : MethodName) prog_150_method_9_code 2 none :: ws) ({ frames := 2, cells := 0, slots := 0, locals := 27 } : Room)) (fun a U => a = #[(.ref a1), (.int p1)] ∧ Z.Warmed39 U.vm ∧ U.heap = h0) (fun _ _ _ _ _ => True) (fun _ U o U' => ∃ v L, o = .returned v ∧ QA1 Z a1 b1 d1 kb kd nn (2 : Int32) x0 p1 x2 (S.set (prF S (stF p1)).toNatClampNeg (.int (2 : Int32))) h0 n0 v U'.heap L ∧ FrameEnd U o U' L ({ frames := 2, cells := 0, slots := 0, locals := 27 } : Room).cells ({ frames := 2, cells := 0, slots := 0, locals := 27 } : Room).slots) := by
  refine own_enter pn_8 ?_
  intro p e s m below meth c s₁ QQ hQQ hx hby hml hown hnm hret hlk hZ X0 e0
  have hown : s.vm.findClass "com/example/bindery/bindery/PartIndex" = some m.cls := hown
  have hml : c.maxLocals = 2 := hml
  have hret : meth.sig.returnType = none := hret
  have N0 := Fr.nil n0
  have K0 := Keep.refl h0 [a1, b1, d1]
  refine Goes.cast (ef_rmA1_1 m a1 p1) ?_
  show Goes p e below QQ (s₁.setTop (mkF m 0 #[rv a1, iv p1] []))
  refine G1 (XS.aloadN X0.here hx rfl (hb hby d8_0) rfl rfl) ?_
  show Goes p e below QQ (s₁.setTop (mkF m 1 #[rv a1, iv p1] [(.ref a1)]))
  obtain ⟨T1, X1, e1, st1⟩ := getF X0 hx hZ hown (host := "") (Or.inl (wI hw 31 rfl)) Via.refl e0 F_size_a1 (g := (mkF m 1 #[rv a1, iv p1] [(.ref a1)])) rfl rfl (hb hby d8_1)
  refine Goes.on (fun t k => st1 t k) ?_
  show Goes p e below QQ (T1.setTop (mkF m 4 #[rv a1, iv p1] [(.int 1)]))
  refine G1 (XS.aloadN X1.here hx rfl (hb hby d8_4) rfl rfl) ?_
  show Goes p e below QQ (T1.setTop (mkF m 5 #[rv a1, iv p1] [(.ref a1), (.int 1)]))
  obtain ⟨T2, X2, e2, st2⟩ := getF X1 hx hZ hown (host := "") (Or.inl (wI hw 21 rfl)) Via.refl e1 F_hashes_a1 (g := (mkF m 5 #[rv a1, iv p1] [(.ref a1), (.int 1)])) rfl rfl (hb hby d8_5)
  refine Goes.on (fun t k => st2 t k) ?_
  show Goes p e below QQ (T2.setTop (mkF m 8 #[rv a1, iv p1] [(.ref b1), (.int 1)]))
  obtain ⟨cl3, Ar3, aq3, aS3, aN3, aH3, aG3⟩ := id V_b1
  refine Goes.on (fun t k => X2.arraylength hx (by rw [e2]; exact Ar3.1) (State.isArrayOf_alike hZ.alike Ar3.2.1) (g := (mkF m 8 #[rv a1, iv p1] [(.ref b1), (.int 1)])) rfl rfl (hb hby d8_8) t k) ?_
  rw [len_of aS3 aN3]
  show Goes p e below QQ (T2.setTop (mkF m 9 #[rv a1, iv p1] [(.int nn), (.int 1)]))
  refine G1 (XS.icmpYes X2.here hx rfl (pc0 := 9) (pc' := 33) rfl (hb hby d8_9) rfl (feq (own_neq (1 : Int32) nn hN)).2 (by decide) (by decide)) ?_
  show Gs p e below QQ T2 m 33 #[rv a1, iv p1] []
  refine G1 (XS.aloadN X2.here hx rfl (hb hby d8_33) rfl rfl) ?_
  show Goes p e below QQ (T2.setTop (mkF m 34 #[rv a1, iv p1] [(.ref a1)]))
  obtain ⟨T4, X4, e4, st4⟩ := getF X2 hx hZ hown (host := "") (Or.inl (wI hw 21 rfl)) Via.refl e2 F_hashes_a1 (g := (mkF m 34 #[rv a1, iv p1] [(.ref a1)])) rfl rfl (hb hby d8_34)
  refine Goes.on (fun t k => st4 t k) ?_
  show Goes p e below QQ (T4.setTop (mkF m 37 #[rv a1, iv p1] [(.ref b1)]))
  refine G1 (XS.aloadN X4.here hx rfl (hb hby d8_37) rfl rfl) ?_
  show Goes p e below QQ (T4.setTop (mkF m 38 #[rv a1, iv p1] [(.ref a1), (.ref b1)]))
  obtain ⟨T5, X5, e5, st5⟩ := getF X4 hx hZ hown (host := "") (Or.inl (wI hw 31 rfl)) Via.refl e4 F_size_a1 (g := (mkF m 38 #[rv a1, iv p1] [(.ref a1), (.ref b1)])) rfl rfl (hb hby d8_38)
  refine Goes.on (fun t k => st5 t k) ?_
  show Goes p e below QQ (T5.setTop (mkF m 41 #[rv a1, iv p1] [(.int 1), (.ref b1)]))
  refine G1 (XS.iloadN X5.here hx rfl (hb hby d8_41) rfl) ?_
  show Goes p e below QQ (T5.setTop (mkF m 42 #[rv a1, iv p1] [(.int p1), (.int 1), (.ref b1)]))
  obtain ⟨cl6, Ar6, aq6, aS6, aN6, aH6, aG6⟩ := id V_b1
  have hin6 := inb_of (j := (1 : Int32)) aS6 ⟨by decide, hN⟩
  obtain ⟨T7, h7, X7, e7, W7, st7⟩ := stI X5 hx hZ e5 Ar6 (j := (1 : Int32)) hin6 (g := (mkF m 42 #[rv a1, iv p1] [(.int p1), (.int 1), (.ref b1)])) rfl rfl (hb hby d8_42)
  have E_8 := E_a1.wr W7
  have F_9 := F_hashes_a1.other W7 (Or.inl ne_a1_b1)
  have F_10 := F_slots_a1.other W7 (Or.inl ne_a1_b1)
  have F_11 := F_shift_a1.other W7 (Or.inl ne_a1_b1)
  have F_12 := F_size_a1.other W7 (Or.inl ne_a1_b1)
  have V_13 := V_d1.other W7 (Ne.symm ne_b1_d1)
  have K7 := K0.wr W7 (Or.inl (List.mem_of_getElem? (i := 1) rfl))
  have N7 := Fr.snoc X7 N0 g_b1
  have V_14 : Arv Z h7 b1 kb .int nn [(.int x0), (.int p1), (.int x2)] (.int 0) := Arv.set Ar6 aq6 aS6 aN6 aH6 aG6 rfl W7 1 rfl (Nat.le_of_ble_eq_true rfl)
  refine Goes.on (fun t k => st7 t k) ?_
  show Goes p e below QQ (T7.setTop (mkF m 43 #[rv a1, iv p1] []))
  refine G1 (XS.aloadN X7.here hx rfl (hb hby d8_43) rfl rfl) ?_
  refine G1 (XS.dup X7.here hx rfl (hb hby d8_44) rfl rfl) ?_
  show Goes p e below QQ (T7.setTop (mkF m 45 #[rv a1, iv p1] [(.ref a1), (.ref a1)]))
  obtain ⟨T15, X15, e15, st15⟩ := getF X7 hx hZ hown (host := "") (Or.inl (wI hw 31 rfl)) Via.refl e7 F_12 (g := (mkF m 45 #[rv a1, iv p1] [(.ref a1), (.ref a1)])) rfl rfl (hb hby d8_45)
  refine Goes.on (fun t k => st15 t k) ?_
  show Goes p e below QQ (T15.setTop (mkF m 48 #[rv a1, iv p1] [(.int 1), (.ref a1)]))
  refine G1 (XS.iconst X15.here hx rfl (hb hby d8_48)) ?_
  show Gs p e below QQ T15 m 49 #[rv a1, iv p1] [(.int 1), (.int 1), (.ref a1)]
  refine G1 (XS.iadd X15.here hx rfl (hb hby d8_49) rfl) ?_
  show Goes p e below QQ (T15.setTop (mkF m 50 #[rv a1, iv p1] [(.int ((1 : Int32) + (1 : Int32))), (.ref a1)]))
  rw [(by decide : ((1 : Int32) + (1 : Int32)) = (2 : Int32))]
  show Goes p e below QQ (T15.setTop (mkF m 50 #[rv a1, iv p1] [(.int 2), (.ref a1)]))
  obtain ⟨T16, h16, X16, e16, W16, st16⟩ := putF X15 hx hZ hown (host := "") (Or.inl (wI hw 31 rfl)) Via.refl e15 F_12 E_8 (Or.inl (wI hw 32 rfl)) (wI hw 1 rfl) (ty := .int) (by decide) rfl rfl (g := (mkF m 50 #[rv a1, iv p1] [(.int 2), (.ref a1)])) rfl rfl (hb hby d8_50)
  have E_17 := E_8.wr W16
  have F_18 := F_9.other W16 (Or.inr (slot_ne (Or.inl (wI hw 22 rfl)) (Or.inl (wI hw 32 rfl)) (by decide) (t := (.array .int)) (t' := .int) (by decide) (by decide)))
  have F_19 := F_10.other W16 (Or.inr (slot_ne (Or.inl (wI hw 30 rfl)) (Or.inl (wI hw 32 rfl)) (by decide) (t := (.array .int)) (t' := .int) (by decide) (by decide)))
  have F_20 := F_11.other W16 (Or.inr (slot_ne (Or.inl (wI hw 61 rfl)) (Or.inl (wI hw 32 rfl)) (by decide) (t := .int) (t' := .int) (by decide) (by decide)))
  have V_21 := V_14.other W16 (Ne.symm ne_a1_b1)
  have V_22 := V_13.other W16 (Ne.symm ne_a1_d1)
  have K16 := K7.wr W16 (Or.inl (List.mem_of_getElem? (i := 0) rfl))
  have N16 := Fr.snoc X16 N7 g_a1
  have F_23 : Fld Z h16 a1 "com/example/bindery/bindery/PartIndex" "size" "I" (.int 2) := F_12.same W16
  refine Goes.on (fun t k => st16 t k) ?_
  show Goes p e below QQ (T16.setTop (mkF m 53 #[rv a1, iv p1] []))
  refine G1 (XS.aloadN X16.here hx rfl (hb hby d8_53) rfl rfl) ?_
  show Goes p e below QQ (T16.setTop (mkF m 54 #[rv a1, iv p1] [(.ref a1)]))
  obtain ⟨T24, X24, e24, st24⟩ := getF X16 hx hZ hown (host := "") (Or.inl (wI hw 29 rfl)) Via.refl e16 F_19 (g := (mkF m 54 #[rv a1, iv p1] [(.ref a1)])) rfl rfl (hb hby d8_54)
  refine Goes.on (fun t k => st24 t k) ?_
  show Goes p e below QQ (T24.setTop (mkF m 57 #[rv a1, iv p1] [(.ref d1)]))
  refine G1 (XS.ifnonnullYes X24.here hx rfl (pc0 := 57) (pc' := 72) rfl (hb hby d8_57) rfl (by decide) (by decide)) ?_
  show Gs p e below QQ T24 m 72 #[rv a1, iv p1] []
  refine G1 (XS.iconst X24.here hx rfl (hb hby d8_72)) ?_
  refine G1 (XS.aloadN X24.here hx rfl (hb hby d8_73) rfl rfl) ?_
  show Goes p e below QQ (T24.setTop (mkF m 74 #[rv a1, iv p1] [(.ref a1), (.int 2)]))
  obtain ⟨T25, X25, e25, st25⟩ := getF X24 hx hZ hown (host := "") (Or.inl (wI hw 31 rfl)) Via.refl e24 F_23 (g := (mkF m 74 #[rv a1, iv p1] [(.ref a1), (.int 2)])) rfl rfl (hb hby d8_74)
  refine Goes.on (fun t k => st25 t k) ?_
  show Goes p e below QQ (T25.setTop (mkF m 77 #[rv a1, iv p1] [(.int 2), (.int 2)]))
  refine G1 (XS.imul X25.here hx rfl (hb hby d8_77) rfl) ?_
  show Goes p e below QQ (T25.setTop (mkF m 78 #[rv a1, iv p1] [(.int ((2 : Int32) * (2 : Int32)))]))
  rw [(by decide : ((2 : Int32) * (2 : Int32)) = (4 : Int32))]
  show Goes p e below QQ (T25.setTop (mkF m 78 #[rv a1, iv p1] [(.int 4)]))
  refine G1 (XS.aloadN X25.here hx rfl (hb hby d8_78) rfl rfl) ?_
  show Goes p e below QQ (T25.setTop (mkF m 79 #[rv a1, iv p1] [(.ref a1), (.int 4)]))
  obtain ⟨T26, X26, e26, st26⟩ := getF X25 hx hZ hown (host := "") (Or.inl (wI hw 29 rfl)) Via.refl e25 F_19 (g := (mkF m 79 #[rv a1, iv p1] [(.ref a1), (.int 4)])) rfl rfl (hb hby d8_79)
  refine Goes.on (fun t k => st26 t k) ?_
  show Goes p e below QQ (T26.setTop (mkF m 82 #[rv a1, iv p1] [(.ref d1), (.int 4)]))
  obtain ⟨cl27, Ar27, aq27, aS27, aN27, aH27, aG27⟩ := id V_22
  refine Goes.on (fun t k => X26.arraylength hx (by rw [e26]; exact Ar27.1) (State.isArrayOf_alike hZ.alike Ar27.2.1) (g := (mkF m 82 #[rv a1, iv p1] [(.ref d1), (.int 4)])) rfl rfl (hb hby d8_82) t k) ?_
  rw [len_of aS27 aN27]
  show Goes p e below QQ (T26.setTop (mkF m 83 #[rv a1, iv p1] [(.int 32), (.int 4)]))
  refine G1 (XS.icmpYes X26.here hx rfl (pc0 := 83) (pc' := 97) rfl (hb hby d8_83) rfl (flt (by decide)).2.2.2 (by decide) (by decide)) ?_
  show Gs p e below QQ T26 m 97 #[rv a1, iv p1] []
  refine G1 (XS.aloadN X26.here hx rfl (hb hby d8_97) rfl rfl) ?_
  show Goes p e below QQ (T26.setTop (mkF m 98 #[rv a1, iv p1] [(.ref a1)]))
  obtain ⟨T28, X28, e28, st28⟩ := getF X26 hx hZ hown (host := "") (Or.inl (wI hw 29 rfl)) Via.refl e26 F_19 (g := (mkF m 98 #[rv a1, iv p1] [(.ref a1)])) rfl rfl (hb hby d8_98)
  refine Goes.on (fun t k => st28 t k) ?_
  show Goes p e below QQ (T28.setTop (mkF m 101 #[rv a1, iv p1] [(.ref d1)]))
  refine G1 (XS.ifnullNo X28.here hx rfl (hb hby d8_101) rfl) ?_
  show Gs p e below QQ T28 m 104 #[rv a1, iv p1] []
  refine G1 (XS.aloadN X28.here hx rfl (hb hby d8_104) rfl rfl) ?_
  refine G1 (XS.aloadN X28.here hx rfl (hb hby d8_105) rfl rfl) ?_
  show Goes p e below QQ (T28.setTop (mkF m 106 #[rv a1, iv p1] [(.ref a1), (.ref a1)]))
  obtain ⟨T29, X29, e29, st29⟩ := getF X28 hx hZ hown (host := "") (Or.inl (wI hw 31 rfl)) Via.refl e28 F_23 (g := (mkF m 106 #[rv a1, iv p1] [(.ref a1), (.ref a1)])) rfl rfl (hb hby d8_106)
  refine Goes.on (fun t k => st29 t k) ?_
  show Goes p e below QQ (T29.setTop (mkF m 109 #[rv a1, iv p1] [(.int 2), (.ref a1)]))
  refine G1 (XS.iconst X29.here hx rfl (hb hby d8_109)) ?_
  show Gs p e below QQ T29 m 110 #[rv a1, iv p1] [(.int 1), (.int 2), (.ref a1)]
  refine G1 (XS.isub X29.here hx rfl (hb hby d8_110) rfl) ?_
  show Goes p e below QQ (T29.setTop (mkF m 111 #[rv a1, iv p1] [(.int ((2 : Int32) - (1 : Int32))), (.ref a1)]))
  rw [(by decide : ((2 : Int32) - (1 : Int32)) = (1 : Int32))]
  show Goes p e below QQ (T29.setTop (mkF m 111 #[rv a1, iv p1] [(.int 1), (.ref a1)]))
  obtain ⟨cq30, q30, q30'⟩ := E_17.cell
  obtain ⟨_, _, ⟨T30, L30, k30, n30⟩, -, X30, ⟨Lc30, hQ30, l30, y30, z30⟩, st30⟩ := X29.privateBack hx (y := (⟨"com/example/bindery/bindery/PartIndex", "place", "(I)V"⟩ : MethodName)) hown (mvT hZ (wI hw 62 rfl)) (mvT hZ (wI hw 63 rfl)) (mvT hZ (own_selects (y := (⟨"com/example/bindery/bindery/PartIndex", "place", "(I)V"⟩ : MethodName)) (wI hw 63 rfl) (wI hw 64 rfl) (wI hw 1 rfl) (by decide))) (Cond.privateMethod_at (mvP hZ (wI hw 64 rfl) (args := #[]))) (mvT hZ (wI hw 65 rfl)) (by decide) (backOf (W := 0) (rmPl_1 l Z a0 hw [] a1 b1 d1 kb kd nn x0 p1 x2 S h16 n0 (Nat.le_trans Z0 K16.1) E_17 F_18 F_19 F_20 F_23 V_21 V_22 g_d1 ne_a1_d1 ne_b1_d1 hN HS HF) hZ (wI hw 65 rfl) (wI hw 2 rfl) (by decide) (by decide)) (g := (mkF m 111 #[rv a1, iv p1] [(.int 1), (.ref a1)])) rfl (by rw [hml]; rfl) (Steps.refl _) (a := a1) (by rw [e29]; exact q30) q30' (argsL := [(.int 1)]) (rest := []) (lenOf pd_2 rfl) rfl (by show 2 * 0 + _ ≤ _; exact Nat.le_of_eq rfl) (hb hby d8_111) (fun _ _ => ⟨rfl, e29, (by decide : 0 + 0 ≤ _), (by decide : 0 + 0 ≤ _)⟩)
  dsimp only [Pt.U, Pt.locs, Pt.cells, Pt.slots] at X30 l30 y30 z30 st30 hQ30
  have l30 := l30.symm; have y30 := y30.symm; have z30 := z30.symm; subst l30 y30 z30
  have X30 : Stand p l e ({ frames := 2, cells := 0, slots := 0, locals := 27 } : Room) s m #[(.ref a1), (.int p1)] below meth c T30 _ 0 0 := X30
  obtain ⟨rfl, M30, Kp, Vp⟩ := hQ30
  have N30 := Fr.app N16 M30
  refine Goes.on (fun t k => st30.trans k) ?_
  have E_31 := E_17.keep Kp
  have F_32 := F_18.keep Kp (ninS ne_a1_d1 nin0)
  have F_33 := F_19.keep Kp (ninS ne_a1_d1 nin0)
  have F_34 := F_20.keep Kp (ninS ne_a1_d1 nin0)
  have F_35 := F_23.keep Kp (ninS ne_a1_d1 nin0)
  have V_36 := V_21.keep Kp (ninS ne_b1_d1 nin0)
  have K38 := K16.trans Kp (allS (Or.inl (List.mem_of_getElem? (i := 2) rfl)) all0)
  show Goes p e below QQ (T30.setTop (mkF m 114 #[rv a1, iv p1] []))
  exact Goes.rV X30 hx hret hlk (hb hby d8_114) hQQ ⟨rfl, N30, K38, ⟨F_32, F_33, F_34, F_35⟩, V_36, Vp⟩ (by decide) (by decide)
theorem ef_rmA1_2 (m : MethodId) (x0 : Addr) (x1 : Int32) : entryFrame m #[(.ref x0), (.int x1)] 2 = mkF m 0 #[rv x0, iv x1] [] := by first | (simp [entryFrame, mkF, argsToLocals, Value.category]; done) | rfl
set_option maxRecDepth 65536 in
set_option maxHeartbeats 40000000 in
theorem rmA1_2 (l : Launch) (Z : State) (a0 : Array Value) (hw : ∀ d ∈ tables_1, d.before a0 Z = true) (ws : List Jvm.Cond) (a1 b1 d1 : Addr) (p1 : Int32) (kb kd : ClassId) (nn x0 x1 x2 : Int32) (S : List Value) (h0 : Heap) (n0 : Nat) (Z0 : n0 ≤ h0.size) (E_a1 : Exa Z h0 a1 "com/example/bindery/bindery/PartIndex") (F_hashes_a1 : Fld Z h0 a1 "com/example/bindery/bindery/PartIndex" "hashes" "[I" (.ref b1)) (F_slots_a1 : Fld Z h0 a1 "com/example/bindery/bindery/PartIndex" "slots" "[I" (.ref d1)) (F_shift_a1 : Fld Z h0 a1 "com/example/bindery/bindery/PartIndex" "shift" "I" (.int 27)) (F_size_a1 : Fld Z h0 a1 "com/example/bindery/bindery/PartIndex" "size" "I" (.int 2)) (V_b1 : Arv Z h0 b1 kb .int nn [(.int x0), (.int x1), (.int x2)] (.int 0)) (V_d1 : Arv Z h0 d1 kd .int (32 : Int32) S (.int 0)) (g_a1 : n0 ≤ a1) (g_b1 : n0 ≤ b1) (g_d1 : n0 ≤ d1) (ne_a1_b1 : a1 ≠ b1) (ne_a1_d1 : a1 ≠ d1) (ne_b1_d1 : b1 ≠ d1) (hN : (2 : Int32) < nn) (HS : IntS S) (HF : ¬ gi S (stF p1) = 0 → ¬ gi S (afF (stF p1)) = 0 → gi S (afF (afF (stF p1))) = 0) :
    MetFree l (⟨"com/example/bindery/bindery/PartIndex", "add", "(I)V"⟩ : MethodName) (head1 (Jvm.Cond.code (⟨"com/example/bindery/bindery/PartIndex", "add", "(I)V"⟩ : MethodName) prog_150_method_9_code 2 none :: ws) ({ frames := 2, cells := 0, slots := 0, locals := 27 } : Room)) (fun a U => a = #[(.ref a1), (.int p1)] ∧ Z.Warmed39 U.vm ∧ U.heap = h0) (fun _ _ _ _ _ => True) (fun _ U o U' => ∃ v L, o = .returned v ∧ QA1 Z a1 b1 d1 kb kd nn (3 : Int32) x0 x1 p1 (S.set (prF S (stF p1)).toNatClampNeg (.int (3 : Int32))) h0 n0 v U'.heap L ∧ FrameEnd U o U' L ({ frames := 2, cells := 0, slots := 0, locals := 27 } : Room).cells ({ frames := 2, cells := 0, slots := 0, locals := 27 } : Room).slots) := by
  refine own_enter pn_8 ?_
  intro p e s m below meth c s₁ QQ hQQ hx hby hml hown hnm hret hlk hZ X0 e0
  have hown : s.vm.findClass "com/example/bindery/bindery/PartIndex" = some m.cls := hown
  have hml : c.maxLocals = 2 := hml
  have hret : meth.sig.returnType = none := hret
  have N0 := Fr.nil n0
  have K0 := Keep.refl h0 [a1, b1, d1]
  refine Goes.cast (ef_rmA1_2 m a1 p1) ?_
  show Goes p e below QQ (s₁.setTop (mkF m 0 #[rv a1, iv p1] []))
  refine G1 (XS.aloadN X0.here hx rfl (hb hby d8_0) rfl rfl) ?_
  show Goes p e below QQ (s₁.setTop (mkF m 1 #[rv a1, iv p1] [(.ref a1)]))
  obtain ⟨T1, X1, e1, st1⟩ := getF X0 hx hZ hown (host := "") (Or.inl (wI hw 31 rfl)) Via.refl e0 F_size_a1 (g := (mkF m 1 #[rv a1, iv p1] [(.ref a1)])) rfl rfl (hb hby d8_1)
  refine Goes.on (fun t k => st1 t k) ?_
  show Goes p e below QQ (T1.setTop (mkF m 4 #[rv a1, iv p1] [(.int 2)]))
  refine G1 (XS.aloadN X1.here hx rfl (hb hby d8_4) rfl rfl) ?_
  show Goes p e below QQ (T1.setTop (mkF m 5 #[rv a1, iv p1] [(.ref a1), (.int 2)]))
  obtain ⟨T2, X2, e2, st2⟩ := getF X1 hx hZ hown (host := "") (Or.inl (wI hw 21 rfl)) Via.refl e1 F_hashes_a1 (g := (mkF m 5 #[rv a1, iv p1] [(.ref a1), (.int 2)])) rfl rfl (hb hby d8_5)
  refine Goes.on (fun t k => st2 t k) ?_
  show Goes p e below QQ (T2.setTop (mkF m 8 #[rv a1, iv p1] [(.ref b1), (.int 2)]))
  obtain ⟨cl3, Ar3, aq3, aS3, aN3, aH3, aG3⟩ := id V_b1
  refine Goes.on (fun t k => X2.arraylength hx (by rw [e2]; exact Ar3.1) (State.isArrayOf_alike hZ.alike Ar3.2.1) (g := (mkF m 8 #[rv a1, iv p1] [(.ref b1), (.int 2)])) rfl rfl (hb hby d8_8) t k) ?_
  rw [len_of aS3 aN3]
  show Goes p e below QQ (T2.setTop (mkF m 9 #[rv a1, iv p1] [(.int nn), (.int 2)]))
  refine G1 (XS.icmpYes X2.here hx rfl (pc0 := 9) (pc' := 33) rfl (hb hby d8_9) rfl (feq (own_neq (2 : Int32) nn hN)).2 (by decide) (by decide)) ?_
  show Gs p e below QQ T2 m 33 #[rv a1, iv p1] []
  refine G1 (XS.aloadN X2.here hx rfl (hb hby d8_33) rfl rfl) ?_
  show Goes p e below QQ (T2.setTop (mkF m 34 #[rv a1, iv p1] [(.ref a1)]))
  obtain ⟨T4, X4, e4, st4⟩ := getF X2 hx hZ hown (host := "") (Or.inl (wI hw 21 rfl)) Via.refl e2 F_hashes_a1 (g := (mkF m 34 #[rv a1, iv p1] [(.ref a1)])) rfl rfl (hb hby d8_34)
  refine Goes.on (fun t k => st4 t k) ?_
  show Goes p e below QQ (T4.setTop (mkF m 37 #[rv a1, iv p1] [(.ref b1)]))
  refine G1 (XS.aloadN X4.here hx rfl (hb hby d8_37) rfl rfl) ?_
  show Goes p e below QQ (T4.setTop (mkF m 38 #[rv a1, iv p1] [(.ref a1), (.ref b1)]))
  obtain ⟨T5, X5, e5, st5⟩ := getF X4 hx hZ hown (host := "") (Or.inl (wI hw 31 rfl)) Via.refl e4 F_size_a1 (g := (mkF m 38 #[rv a1, iv p1] [(.ref a1), (.ref b1)])) rfl rfl (hb hby d8_38)
  refine Goes.on (fun t k => st5 t k) ?_
  show Goes p e below QQ (T5.setTop (mkF m 41 #[rv a1, iv p1] [(.int 2), (.ref b1)]))
  refine G1 (XS.iloadN X5.here hx rfl (hb hby d8_41) rfl) ?_
  show Goes p e below QQ (T5.setTop (mkF m 42 #[rv a1, iv p1] [(.int p1), (.int 2), (.ref b1)]))
  obtain ⟨cl6, Ar6, aq6, aS6, aN6, aH6, aG6⟩ := id V_b1
  have hin6 := inb_of (j := (2 : Int32)) aS6 ⟨by decide, hN⟩
  obtain ⟨T7, h7, X7, e7, W7, st7⟩ := stI X5 hx hZ e5 Ar6 (j := (2 : Int32)) hin6 (g := (mkF m 42 #[rv a1, iv p1] [(.int p1), (.int 2), (.ref b1)])) rfl rfl (hb hby d8_42)
  have E_8 := E_a1.wr W7
  have F_9 := F_hashes_a1.other W7 (Or.inl ne_a1_b1)
  have F_10 := F_slots_a1.other W7 (Or.inl ne_a1_b1)
  have F_11 := F_shift_a1.other W7 (Or.inl ne_a1_b1)
  have F_12 := F_size_a1.other W7 (Or.inl ne_a1_b1)
  have V_13 := V_d1.other W7 (Ne.symm ne_b1_d1)
  have K7 := K0.wr W7 (Or.inl (List.mem_of_getElem? (i := 1) rfl))
  have N7 := Fr.snoc X7 N0 g_b1
  have V_14 : Arv Z h7 b1 kb .int nn [(.int x0), (.int x1), (.int p1)] (.int 0) := Arv.set Ar6 aq6 aS6 aN6 aH6 aG6 rfl W7 2 rfl (Nat.le_of_ble_eq_true rfl)
  refine Goes.on (fun t k => st7 t k) ?_
  show Goes p e below QQ (T7.setTop (mkF m 43 #[rv a1, iv p1] []))
  refine G1 (XS.aloadN X7.here hx rfl (hb hby d8_43) rfl rfl) ?_
  refine G1 (XS.dup X7.here hx rfl (hb hby d8_44) rfl rfl) ?_
  show Goes p e below QQ (T7.setTop (mkF m 45 #[rv a1, iv p1] [(.ref a1), (.ref a1)]))
  obtain ⟨T15, X15, e15, st15⟩ := getF X7 hx hZ hown (host := "") (Or.inl (wI hw 31 rfl)) Via.refl e7 F_12 (g := (mkF m 45 #[rv a1, iv p1] [(.ref a1), (.ref a1)])) rfl rfl (hb hby d8_45)
  refine Goes.on (fun t k => st15 t k) ?_
  show Goes p e below QQ (T15.setTop (mkF m 48 #[rv a1, iv p1] [(.int 2), (.ref a1)]))
  refine G1 (XS.iconst X15.here hx rfl (hb hby d8_48)) ?_
  show Gs p e below QQ T15 m 49 #[rv a1, iv p1] [(.int 1), (.int 2), (.ref a1)]
  refine G1 (XS.iadd X15.here hx rfl (hb hby d8_49) rfl) ?_
  show Goes p e below QQ (T15.setTop (mkF m 50 #[rv a1, iv p1] [(.int ((2 : Int32) + (1 : Int32))), (.ref a1)]))
  rw [(by decide : ((2 : Int32) + (1 : Int32)) = (3 : Int32))]
  show Goes p e below QQ (T15.setTop (mkF m 50 #[rv a1, iv p1] [(.int 3), (.ref a1)]))
  obtain ⟨T16, h16, X16, e16, W16, st16⟩ := putF X15 hx hZ hown (host := "") (Or.inl (wI hw 31 rfl)) Via.refl e15 F_12 E_8 (Or.inl (wI hw 32 rfl)) (wI hw 1 rfl) (ty := .int) (by decide) rfl rfl (g := (mkF m 50 #[rv a1, iv p1] [(.int 3), (.ref a1)])) rfl rfl (hb hby d8_50)
  have E_17 := E_8.wr W16
  have F_18 := F_9.other W16 (Or.inr (slot_ne (Or.inl (wI hw 22 rfl)) (Or.inl (wI hw 32 rfl)) (by decide) (t := (.array .int)) (t' := .int) (by decide) (by decide)))
  have F_19 := F_10.other W16 (Or.inr (slot_ne (Or.inl (wI hw 30 rfl)) (Or.inl (wI hw 32 rfl)) (by decide) (t := (.array .int)) (t' := .int) (by decide) (by decide)))
  have F_20 := F_11.other W16 (Or.inr (slot_ne (Or.inl (wI hw 61 rfl)) (Or.inl (wI hw 32 rfl)) (by decide) (t := .int) (t' := .int) (by decide) (by decide)))
  have V_21 := V_14.other W16 (Ne.symm ne_a1_b1)
  have V_22 := V_13.other W16 (Ne.symm ne_a1_d1)
  have K16 := K7.wr W16 (Or.inl (List.mem_of_getElem? (i := 0) rfl))
  have N16 := Fr.snoc X16 N7 g_a1
  have F_23 : Fld Z h16 a1 "com/example/bindery/bindery/PartIndex" "size" "I" (.int 3) := F_12.same W16
  refine Goes.on (fun t k => st16 t k) ?_
  show Goes p e below QQ (T16.setTop (mkF m 53 #[rv a1, iv p1] []))
  refine G1 (XS.aloadN X16.here hx rfl (hb hby d8_53) rfl rfl) ?_
  show Goes p e below QQ (T16.setTop (mkF m 54 #[rv a1, iv p1] [(.ref a1)]))
  obtain ⟨T24, X24, e24, st24⟩ := getF X16 hx hZ hown (host := "") (Or.inl (wI hw 29 rfl)) Via.refl e16 F_19 (g := (mkF m 54 #[rv a1, iv p1] [(.ref a1)])) rfl rfl (hb hby d8_54)
  refine Goes.on (fun t k => st24 t k) ?_
  show Goes p e below QQ (T24.setTop (mkF m 57 #[rv a1, iv p1] [(.ref d1)]))
  refine G1 (XS.ifnonnullYes X24.here hx rfl (pc0 := 57) (pc' := 72) rfl (hb hby d8_57) rfl (by decide) (by decide)) ?_
  show Gs p e below QQ T24 m 72 #[rv a1, iv p1] []
  refine G1 (XS.iconst X24.here hx rfl (hb hby d8_72)) ?_
  refine G1 (XS.aloadN X24.here hx rfl (hb hby d8_73) rfl rfl) ?_
  show Goes p e below QQ (T24.setTop (mkF m 74 #[rv a1, iv p1] [(.ref a1), (.int 2)]))
  obtain ⟨T25, X25, e25, st25⟩ := getF X24 hx hZ hown (host := "") (Or.inl (wI hw 31 rfl)) Via.refl e24 F_23 (g := (mkF m 74 #[rv a1, iv p1] [(.ref a1), (.int 2)])) rfl rfl (hb hby d8_74)
  refine Goes.on (fun t k => st25 t k) ?_
  show Goes p e below QQ (T25.setTop (mkF m 77 #[rv a1, iv p1] [(.int 3), (.int 2)]))
  refine G1 (XS.imul X25.here hx rfl (hb hby d8_77) rfl) ?_
  show Goes p e below QQ (T25.setTop (mkF m 78 #[rv a1, iv p1] [(.int ((2 : Int32) * (3 : Int32)))]))
  rw [(by decide : ((2 : Int32) * (3 : Int32)) = (6 : Int32))]
  show Goes p e below QQ (T25.setTop (mkF m 78 #[rv a1, iv p1] [(.int 6)]))
  refine G1 (XS.aloadN X25.here hx rfl (hb hby d8_78) rfl rfl) ?_
  show Goes p e below QQ (T25.setTop (mkF m 79 #[rv a1, iv p1] [(.ref a1), (.int 6)]))
  obtain ⟨T26, X26, e26, st26⟩ := getF X25 hx hZ hown (host := "") (Or.inl (wI hw 29 rfl)) Via.refl e25 F_19 (g := (mkF m 79 #[rv a1, iv p1] [(.ref a1), (.int 6)])) rfl rfl (hb hby d8_79)
  refine Goes.on (fun t k => st26 t k) ?_
  show Goes p e below QQ (T26.setTop (mkF m 82 #[rv a1, iv p1] [(.ref d1), (.int 6)]))
  obtain ⟨cl27, Ar27, aq27, aS27, aN27, aH27, aG27⟩ := id V_22
  refine Goes.on (fun t k => X26.arraylength hx (by rw [e26]; exact Ar27.1) (State.isArrayOf_alike hZ.alike Ar27.2.1) (g := (mkF m 82 #[rv a1, iv p1] [(.ref d1), (.int 6)])) rfl rfl (hb hby d8_82) t k) ?_
  rw [len_of aS27 aN27]
  show Goes p e below QQ (T26.setTop (mkF m 83 #[rv a1, iv p1] [(.int 32), (.int 6)]))
  refine G1 (XS.icmpYes X26.here hx rfl (pc0 := 83) (pc' := 97) rfl (hb hby d8_83) rfl (flt (by decide)).2.2.2 (by decide) (by decide)) ?_
  show Gs p e below QQ T26 m 97 #[rv a1, iv p1] []
  refine G1 (XS.aloadN X26.here hx rfl (hb hby d8_97) rfl rfl) ?_
  show Goes p e below QQ (T26.setTop (mkF m 98 #[rv a1, iv p1] [(.ref a1)]))
  obtain ⟨T28, X28, e28, st28⟩ := getF X26 hx hZ hown (host := "") (Or.inl (wI hw 29 rfl)) Via.refl e26 F_19 (g := (mkF m 98 #[rv a1, iv p1] [(.ref a1)])) rfl rfl (hb hby d8_98)
  refine Goes.on (fun t k => st28 t k) ?_
  show Goes p e below QQ (T28.setTop (mkF m 101 #[rv a1, iv p1] [(.ref d1)]))
  refine G1 (XS.ifnullNo X28.here hx rfl (hb hby d8_101) rfl) ?_
  show Gs p e below QQ T28 m 104 #[rv a1, iv p1] []
  refine G1 (XS.aloadN X28.here hx rfl (hb hby d8_104) rfl rfl) ?_
  refine G1 (XS.aloadN X28.here hx rfl (hb hby d8_105) rfl rfl) ?_
  show Goes p e below QQ (T28.setTop (mkF m 106 #[rv a1, iv p1] [(.ref a1), (.ref a1)]))
  obtain ⟨T29, X29, e29, st29⟩ := getF X28 hx hZ hown (host := "") (Or.inl (wI hw 31 rfl)) Via.refl e28 F_23 (g := (mkF m 106 #[rv a1, iv p1] [(.ref a1), (.ref a1)])) rfl rfl (hb hby d8_106)
  refine Goes.on (fun t k => st29 t k) ?_
  show Goes p e below QQ (T29.setTop (mkF m 109 #[rv a1, iv p1] [(.int 3), (.ref a1)]))
  refine G1 (XS.iconst X29.here hx rfl (hb hby d8_109)) ?_
  show Gs p e below QQ T29 m 110 #[rv a1, iv p1] [(.int 1), (.int 3), (.ref a1)]
  refine G1 (XS.isub X29.here hx rfl (hb hby d8_110) rfl) ?_
  show Goes p e below QQ (T29.setTop (mkF m 111 #[rv a1, iv p1] [(.int ((3 : Int32) - (1 : Int32))), (.ref a1)]))
  rw [(by decide : ((3 : Int32) - (1 : Int32)) = (2 : Int32))]
  show Goes p e below QQ (T29.setTop (mkF m 111 #[rv a1, iv p1] [(.int 2), (.ref a1)]))
  obtain ⟨cq30, q30, q30'⟩ := E_17.cell
  obtain ⟨_, _, ⟨T30, L30, k30, n30⟩, -, X30, ⟨Lc30, hQ30, l30, y30, z30⟩, st30⟩ := X29.privateBack hx (y := (⟨"com/example/bindery/bindery/PartIndex", "place", "(I)V"⟩ : MethodName)) hown (mvT hZ (wI hw 62 rfl)) (mvT hZ (wI hw 63 rfl)) (mvT hZ (own_selects (y := (⟨"com/example/bindery/bindery/PartIndex", "place", "(I)V"⟩ : MethodName)) (wI hw 63 rfl) (wI hw 64 rfl) (wI hw 1 rfl) (by decide))) (Cond.privateMethod_at (mvP hZ (wI hw 64 rfl) (args := #[]))) (mvT hZ (wI hw 65 rfl)) (by decide) (backOf (W := 0) (rmPl_2 l Z a0 hw [] a1 b1 d1 kb kd nn x0 x1 p1 S h16 n0 (Nat.le_trans Z0 K16.1) E_17 F_18 F_19 F_20 F_23 V_21 V_22 g_d1 ne_a1_d1 ne_b1_d1 hN HS HF) hZ (wI hw 65 rfl) (wI hw 2 rfl) (by decide) (by decide)) (g := (mkF m 111 #[rv a1, iv p1] [(.int 2), (.ref a1)])) rfl (by rw [hml]; rfl) (Steps.refl _) (a := a1) (by rw [e29]; exact q30) q30' (argsL := [(.int 2)]) (rest := []) (lenOf pd_2 rfl) rfl (by show 2 * 0 + _ ≤ _; exact Nat.le_of_eq rfl) (hb hby d8_111) (fun _ _ => ⟨rfl, e29, (by decide : 0 + 0 ≤ _), (by decide : 0 + 0 ≤ _)⟩)
  dsimp only [Pt.U, Pt.locs, Pt.cells, Pt.slots] at X30 l30 y30 z30 st30 hQ30
  have l30 := l30.symm; have y30 := y30.symm; have z30 := z30.symm; subst l30 y30 z30
  have X30 : Stand p l e ({ frames := 2, cells := 0, slots := 0, locals := 27 } : Room) s m #[(.ref a1), (.int p1)] below meth c T30 _ 0 0 := X30
  obtain ⟨rfl, M30, Kp, Vp⟩ := hQ30
  have N30 := Fr.app N16 M30
  refine Goes.on (fun t k => st30.trans k) ?_
  have E_31 := E_17.keep Kp
  have F_32 := F_18.keep Kp (ninS ne_a1_d1 nin0)
  have F_33 := F_19.keep Kp (ninS ne_a1_d1 nin0)
  have F_34 := F_20.keep Kp (ninS ne_a1_d1 nin0)
  have F_35 := F_23.keep Kp (ninS ne_a1_d1 nin0)
  have V_36 := V_21.keep Kp (ninS ne_b1_d1 nin0)
  have K38 := K16.trans Kp (allS (Or.inl (List.mem_of_getElem? (i := 2) rfl)) all0)
  show Goes p e below QQ (T30.setTop (mkF m 114 #[rv a1, iv p1] []))
  exact Goes.rV X30 hx hret hlk (hb hby d8_114) hQQ ⟨rfl, N30, K38, ⟨F_32, F_33, F_34, F_35⟩, V_36, Vp⟩ (by decide) (by decide)
theorem pn_0 : plainFor x = true := plainFor_of_name (show plainName "com/example/bindery/bindery/PartIndexEntryAtPinLaw" = true by first | (simp [plainName, overriddenIn]; done) | decide +kernel)
theorem ef_rm0 (m : MethodId) (x0 : Int32) (x1 : Int32) (x2 : Int32) (x3 : Int32) (x4 : Int32) (x5 : Int32) : entryFrame m #[(.int x0), (.int x1), (.int x2), (.int x3), (.int x4), (.int x5)] maxLocals = mkF m 0 #[iv x0, iv x1, iv x2, iv x3, iv x4, iv x5, .unset, .unset, .unset, .unset, .unset, .unset, .unset, .unset, .unset, .unset] [] := by first | (simp [entryFrame, mkF, argsToLocals, Value.category, maxLocals]; done) | rfl
theorem pd_4 : parseMethodDescriptor "(IIIII)I" = some ⟨[.int, .int, .int, .int, .int], some .int⟩ := by decide +kernel
theorem own_four (x1 : Int32) : (x1 &&& (3 : Int32)) = (0 : Int32) ∨ (x1 &&& (3 : Int32)) = (1 : Int32) ∨ (x1 &&& (3 : Int32)) = (2 : Int32) ∨ (x1 &&& (3 : Int32)) = (3 : Int32) := by
  have q := c_mask x1 3 2 (by decide) (by decide)
  have e0 : (0 : Int32).toInt = 0 := by decide
  have e1 : (1 : Int32).toInt = 1 := by decide
  have e2 : (2 : Int32).toInt = 2 := by decide
  have e3 : (3 : Int32).toInt = 3 := by decide
  rw [← Int32.toInt_inj, ← Int32.toInt_inj, ← Int32.toInt_inj, ← Int32.toInt_inj, e0, e1, e2, e3]
  omega
theorem own_roomI (y : Int32) (h : y.toInt ≤ 65536) : (roomF y).toInt = max y.toInt 0 := by
  unfold roomF minF maxF
  have e0 : (0 : Int32).toInt = 0 := by decide
  have e6 : (65536 : Int32).toInt = 65536 := by decide
  by_cases c1 : y < (0 : Int32)
  · rw [if_pos c1]
    rw [Int32.lt_iff_toInt_lt, e0] at c1
    rw [if_neg (by rw [Int32.lt_iff_toInt_lt, e0, e6]; omega), e0]
    omega
  · rw [if_neg c1]
    rw [Int32.lt_iff_toInt_lt, e0] at c1
    rw [if_neg (by rw [Int32.lt_iff_toInt_lt, e6]; omega)]
    omega
theorem own_room1 (p6 : Int32) : ∃ nn, roomF ((9 : Int32) + (p6 &&& (7 : Int32))) = nn ∧ 9 ≤ nn.toInt ∧ nn.toInt ≤ 16 := by
  refine ⟨_, rfl, ?_⟩
  have q := c_mask p6 7 3 (by decide) (by decide)
  have r := c_iadd (9 : Int32) (p6 &&& (7 : Int32))
  have s := rng32 ((9 : Int32) + (p6 &&& (7 : Int32)))
  rw [(by decide : (9 : Int32).toInt = 9)] at r
  rw [own_roomI _ (by omega)]
  omega
theorem own_room0 (p6 : Int32) : ∃ nn, roomF ((p6 &&& (15 : Int32)) - (8 : Int32)) = nn ∧ 0 ≤ nn.toInt ∧ nn.toInt ≤ 8 := by
  refine ⟨_, rfl, ?_⟩
  have q := c_mask p6 15 4 (by decide) (by decide)
  have r := c_isub (p6 &&& (15 : Int32)) (8 : Int32)
  have s := rng32 ((p6 &&& (15 : Int32)) - (8 : Int32))
  rw [(by decide : (8 : Int32).toInt = 8)] at r
  rw [own_roomI _ (by omega)]
  omega
theorem own_ge0 (nn : Int32) (hn : 0 ≤ nn.toInt ∧ nn.toInt ≤ 8) : (0 : Int32).toInt ≤ nn.toInt := by
  rw [(by decide : (0 : Int32).toInt = 0)]; exact hn.1
theorem own_lt9 (k nn : Int32) (hn : 9 ≤ nn.toInt ∧ nn.toInt ≤ 16) (hk : k.toInt < 9) : k < nn := by
  rw [Int32.lt_iff_toInt_lt]; omega
theorem own_gi0 (j : Int32) : (List.replicate 32 (Value.int (0 : Int32))).getD j.toNatClampNeg (.int (0 : Int32)) = .int 0 := by
  rw [List.getD_eq_getElem?_getD, List.getElem?_replicate]
  split <;> rfl
theorem own_giS (j : Int32) : gi (List.replicate 32 (Value.int (0 : Int32))) j = 0 := by
  unfold gi
  rw [own_gi0]
theorem own_S0 : IntS (List.replicate 32 (Value.int (0 : Int32))) := by
  refine ⟨List.length_replicate, fun j => ?_⟩
  rw [own_giS, own_gi0]
theorem own_getset (S : List Value) (n k : Nat) (v d : Value) (hn : n < S.length) : (S.set n v).getD k d = if n = k then v else S.getD k d := by
  rw [List.getD_eq_getElem?_getD, List.getD_eq_getElem?_getD, List.getElem?_set]
  by_cases h : n = k
  · subst h; simp [hn]
  · simp [h]
theorem own_IntS (S : List Value) (n : Nat) (y : Int32) (HS : IntS S) : IntS (S.set n (.int y)) := by
  refine ⟨by rw [List.length_set]; exact HS.1, fun j => ?_⟩
  by_cases hn : n < S.length
  · have q := own_getset S n j.toNatClampNeg (.int y) (.int (0 : Int32)) hn
    unfold gi
    rw [q]
    by_cases h : n = j.toNatClampNeg
    · rw [if_pos h]
    · rw [if_neg h]
      exact HS.2 j
  · rw [List.set_eq_of_length_le (by omega)]
    exact HS.2 j
/-- a place among the slots -/
def Pos (y : Int32) : Prop := ¬ y < 0 ∧ y < (32 : Int32)
theorem own_gset (S : List Value) (q j y : Int32) (HS : IntS S) (hq : Pos q) (hj : Pos j) : gi (S.set q.toNatClampNeg (.int y)) j = if q = j then y else gi S j := by
  have a1 := own_nat hq
  have a2 := own_nat hj
  unfold gi
  rw [own_getset S _ _ _ _ (own_ltS hq HS)]
  by_cases h : q = j
  · subst h; rw [if_pos rfl, if_pos rfl]
  · have hn : ¬ q.toNatClampNeg = j.toNatClampNeg := fun z => h (Int32.toInt_inj.mp (by omega))
    rw [if_neg hn, if_neg h]
theorem own_afI (y : Int32) (h : Pos y) : (afF y).toInt = (y.toInt + 1) % 32 := by
  unfold afF
  have q := c_mask (y + (1 : Int32)) 31 5 (by decide) (by decide)
  have r := c_iadd y (1 : Int32)
  have a1 := own_nat h
  rw [(by decide : (1 : Int32).toInt = 1)] at r
  have s := rng32 (y + (1 : Int32))
  omega
theorem own_af1 (y : Int32) (h : Pos y) : ¬ afF y = y := by
  intro z
  have q := own_afI y h
  have a1 := own_nat h
  rw [z] at q
  omega
theorem own_af2 (y : Int32) (h : Pos y) : ¬ afF (afF y) = y := by
  intro z
  have q := own_afI y h
  have q2 := own_afI (afF y) (own_af y)
  have a1 := own_nat h
  rw [z] at q2
  omega
/-- the second and third places -/
def P2 (p2 g2 : Int32) : Int32 := if stF g2 = stF p2 then afF (stF g2) else stF g2
def P3 (p2 g2 g3 : Int32) : Int32 := if stF g3 = stF p2 ∨ stF g3 = P2 p2 g2 then (if afF (stF g3) = stF p2 ∨ afF (stF g3) = P2 p2 g2 then afF (afF (stF g3)) else afF (stF g3)) else stF g3
theorem own_P2 (p2 g2 : Int32) : Pos (P2 p2 g2) ∧ ¬ P2 p2 g2 = stF p2 := by
  unfold P2
  by_cases h : stF g2 = stF p2
  · rw [if_pos h, h]; exact ⟨own_af _, own_af1 _ (own_st _)⟩
  · rw [if_neg h]; exact ⟨own_st _, h⟩
theorem own_P3 (p2 g2 g3 : Int32) : Pos (P3 p2 g2 g3) ∧ ¬ P3 p2 g2 g3 = stF p2 ∧ ¬ P3 p2 g2 g3 = P2 p2 g2 := by
  have hp := own_P2 p2 g2
  unfold P3
  by_cases h : stF g3 = stF p2 ∨ stF g3 = P2 p2 g2
  · rw [if_pos h]
    have n1 := own_af1 (stF g3) (own_st _)
    have n2 := own_af2 (stF g3) (own_st _)
    have n3 := own_af1 (afF (stF g3)) (own_af _)
    by_cases h2 : afF (stF g3) = stF p2 ∨ afF (stF g3) = P2 p2 g2
    · rw [if_pos h2]
      refine ⟨own_af _, ?_, ?_⟩
      · rcases h with h | h <;> rcases h2 with h2 | h2 <;> intro z
        · exact n2 (z.trans h.symm)
        · exact n2 (z.trans h.symm)
        · exact n3 (z.trans h2.symm)
        · exact hp.2 ((h2.symm.trans (by rw [← h2] at h; exact absurd h.symm n1)))
      · rcases h with h | h <;> rcases h2 with h2 | h2 <;> intro z
        · exact n1 (h2.trans h.symm)
        · exact n3 (z.trans h2.symm)
        · exact n2 (z.trans h.symm)
        · exact n2 (z.trans h.symm)
    · rw [if_neg h2]
      exact ⟨own_af _, fun z => h2 (Or.inl z), fun z => h2 (Or.inr z)⟩
  · rw [if_neg h]
    exact ⟨own_st _, fun z => h (Or.inl z), fun z => h (Or.inr z)⟩
theorem own_pr (S : List Value) (q : Int32) (h : gi S q = 0) : prF S q = q := if_pos h
/-- what the slots hold -/
theorem own_g0 (S0 : List Value) (hS0 : S0 = List.replicate 32 (Value.int (0 : Int32))) (j : Int32) : gi S0 j = 0 := by subst hS0; exact own_giS j
theorem own_i0 (S0 : List Value) (hS0 : S0 = List.replicate 32 (Value.int (0 : Int32))) : IntS S0 := by subst hS0; exact own_S0
section Sl
variable {p2 g2 g3 : Int32} {S0 S1 S2 S3 : List Value} (hS0 : S0 = List.replicate 32 (Value.int (0 : Int32))) (hS1 : S1 = S0.set (prF S0 (stF p2)).toNatClampNeg (.int (1 : Int32))) (hS2 : S2 = S1.set (prF S1 (stF g2)).toNatClampNeg (.int (2 : Int32))) (hS3 : S3 = S2.set (prF S2 (stF g3)).toNatClampNeg (.int (3 : Int32)))
theorem own_g1 (hS0 : S0 = List.replicate 32 (Value.int (0 : Int32))) (hS1 : S1 = S0.set (prF S0 (stF p2)).toNatClampNeg (.int (1 : Int32))) : IntS S1 ∧ ∀ j, Pos j → gi S1 j = if stF p2 = j then 1 else 0 := by
  have i0 := own_i0 S0 hS0
  have e := own_pr S0 (stF p2) (own_g0 S0 hS0 _)
  rw [e] at hS1
  subst hS1
  exact ⟨own_IntS _ _ _ i0, fun j hj => by rw [own_gset S0 _ j _ i0 (own_st p2) hj, own_g0 S0 hS0]⟩
theorem own_pr2 (hS0 : S0 = List.replicate 32 (Value.int (0 : Int32))) (hS1 : S1 = S0.set (prF S0 (stF p2)).toNatClampNeg (.int (1 : Int32))) (g2 : Int32) : prF S1 (stF g2) = P2 p2 g2 := by
  obtain ⟨i1, g⟩ := own_g1 hS0 hS1
  have q1 := g _ (own_st g2)
  have q2 := g _ (own_af (stF g2))
  have n1 := own_af1 (stF g2) (own_st g2)
  by_cases h : stF g2 = stF p2
  · rw [if_pos h.symm] at q1
    rw [if_neg (show ¬ stF p2 = afF (stF g2) from fun z => n1 (z.symm.trans h.symm))] at q2
    have u1 : ¬ gi S1 (stF g2) = 0 := by rw [q1]; decide
    exact ((if_neg u1).trans (if_pos q2)).trans (if_pos h).symm
  · rw [if_neg (show ¬ stF p2 = stF g2 from fun z => h z.symm)] at q1
    exact (if_pos q1).trans (if_neg h).symm
theorem own_g2 (hS0 : S0 = List.replicate 32 (Value.int (0 : Int32))) (hS1 : S1 = S0.set (prF S0 (stF p2)).toNatClampNeg (.int (1 : Int32))) (hS2 : S2 = S1.set (prF S1 (stF g2)).toNatClampNeg (.int (2 : Int32))) : IntS S2 ∧ ∀ j, Pos j → gi S2 j = if P2 p2 g2 = j then 2 else if stF p2 = j then 1 else 0 := by
  obtain ⟨i1, g⟩ := own_g1 hS0 hS1
  rw [own_pr2 hS0 hS1 g2] at hS2
  subst hS2
  exact ⟨own_IntS _ _ _ i1, fun j hj => by rw [own_gset S1 _ j _ i1 (own_P2 p2 g2).1 hj, g j hj]⟩
theorem own_z2 (hS0 : S0 = List.replicate 32 (Value.int (0 : Int32))) (hS1 : S1 = S0.set (prF S0 (stF p2)).toNatClampNeg (.int (1 : Int32))) (hS2 : S2 = S1.set (prF S1 (stF g2)).toNatClampNeg (.int (2 : Int32))) (j : Int32) (hj : Pos j) : gi S2 j = 0 ↔ ¬ (j = stF p2 ∨ j = P2 p2 g2) := by
  rw [(own_g2 hS0 hS1 hS2).2 j hj]
  by_cases h1 : P2 p2 g2 = j
  · rw [if_pos h1]
    exact ⟨fun z => absurd z (by decide), fun z => absurd (Or.inr h1.symm) z⟩
  · rw [if_neg h1]
    by_cases h2 : stF p2 = j
    · rw [if_pos h2]
      exact ⟨fun z => absurd z (by decide), fun z => absurd (Or.inl h2.symm) z⟩
    · rw [if_neg h2]
      exact ⟨fun _ z => z.elim (fun q => h2 q.symm) (fun q => h1 q.symm), fun _ => rfl⟩
theorem own_pr3 (hS0 : S0 = List.replicate 32 (Value.int (0 : Int32))) (hS1 : S1 = S0.set (prF S0 (stF p2)).toNatClampNeg (.int (1 : Int32))) (hS2 : S2 = S1.set (prF S1 (stF g2)).toNatClampNeg (.int (2 : Int32))) (g3 : Int32) : prF S2 (stF g3) = P3 p2 g2 g3 := by
  unfold prF P3
  have a1 := own_z2 hS0 hS1 hS2 _ (own_st g3)
  have a2 := own_z2 hS0 hS1 hS2 _ (own_af (stF g3))
  by_cases h : stF g3 = stF p2 ∨ stF g3 = P2 p2 g2
  · rw [if_pos h, if_neg (fun z => a1.mp z h)]
    by_cases h2 : afF (stF g3) = stF p2 ∨ afF (stF g3) = P2 p2 g2
    · rw [if_pos h2, if_neg (fun z => a2.mp z h2)]
    · rw [if_neg h2, if_pos (a2.mpr h2)]
  · rw [if_neg h, if_pos (a1.mpr h)]
theorem own_g3 (hS0 : S0 = List.replicate 32 (Value.int (0 : Int32))) (hS1 : S1 = S0.set (prF S0 (stF p2)).toNatClampNeg (.int (1 : Int32))) (hS2 : S2 = S1.set (prF S1 (stF g2)).toNatClampNeg (.int (2 : Int32))) (hS3 : S3 = S2.set (prF S2 (stF g3)).toNatClampNeg (.int (3 : Int32))) : ∀ j, Pos j → gi S3 j = if P3 p2 g2 g3 = j then 3 else if P2 p2 g2 = j then 2 else if stF p2 = j then 1 else 0 := by
  obtain ⟨i2, g⟩ := own_g2 hS0 hS1 hS2
  rw [own_pr3 hS0 hS1 hS2 g3] at hS3
  subst hS3
  exact fun j hj => by rw [own_gset S2 _ j _ i2 (own_P3 p2 g2 g3).1 hj, g j hj]
end Sl
theorem own_free0 (S0 : List Value) (hS0 : S0 = List.replicate 32 (Value.int (0 : Int32))) (y : Int32) : ¬ gi S0 (stF y) = 0 → ¬ gi S0 (afF (stF y)) = 0 → gi S0 (afF (afF (stF y))) = 0 :=
  fun h _ => absurd (own_g0 S0 hS0 _) h
theorem own_free1 (p2 g2 : Int32) (S0 S1 : List Value) (hS0 : S0 = List.replicate 32 (Value.int (0 : Int32))) (hS1 : S1 = S0.set (prF S0 (stF p2)).toNatClampNeg (.int (1 : Int32))) : ¬ gi S1 (stF g2) = 0 → ¬ gi S1 (afF (stF g2)) = 0 → gi S1 (afF (afF (stF g2))) = 0 := by
  obtain ⟨i1, g⟩ := own_g1 hS0 hS1
  rw [g _ (own_st g2), g _ (own_af _)]
  intro h1 h2
  have e1 : stF p2 = stF g2 := Classical.byContradiction fun z => h1 (if_neg z)
  have e2 : stF p2 = afF (stF g2) := Classical.byContradiction fun z => h2 (if_neg z)
  exact absurd (e2.symm.trans e1) (own_af1 _ (own_st g2))
theorem own_free2 (p2 g2 g3 : Int32) (S0 S1 S2 : List Value) (hS0 : S0 = List.replicate 32 (Value.int (0 : Int32))) (hS1 : S1 = S0.set (prF S0 (stF p2)).toNatClampNeg (.int (1 : Int32))) (hS2 : S2 = S1.set (prF S1 (stF g2)).toNatClampNeg (.int (2 : Int32))) : ¬ gi S2 (stF g3) = 0 → ¬ gi S2 (afF (stF g3)) = 0 → gi S2 (afF (afF (stF g3))) = 0 := by
  intro h1 h2
  have a1 := own_z2 hS0 hS1 hS2 _ (own_st g3)
  have a2 := own_z2 hS0 hS1 hS2 _ (own_af (stF g3))
  have a3 := own_z2 hS0 hS1 hS2 _ (own_af (afF (stF g3)))
  have b1 : stF g3 = stF p2 ∨ stF g3 = P2 p2 g2 := Classical.byContradiction fun z => h1 (a1.mpr z)
  have b2 : afF (stF g3) = stF p2 ∨ afF (stF g3) = P2 p2 g2 := Classical.byContradiction fun z => h2 (a2.mpr z)
  have q := own_P3 p2 g2 g3
  unfold P3 at q
  rw [if_pos b1, if_pos b2] at q
  exact a3.mpr fun z => z.elim q.2.1 q.2.2
theorem own_or3 {α : Type} {p q : Prop} [Decidable p] [Decidable q] (u w : α) : (if p then u else (if q then u else w)) = if p ∨ q then u else w := by
  by_cases h1 : p
  · rw [if_pos h1, if_pos (Or.inl h1)]
  · by_cases h2 : q
    · rw [if_neg h1, if_pos h2, if_pos (Or.inr h2)]
    · rw [if_neg h1, if_neg h2, if_neg (fun z => z.elim h1 h2)]
theorem own_Q2 (p2 g2 : Int32) : (if (stF g2) = (stF p2) then (((stF g2) + (1 : Int32)) &&& (31 : Int32)) else (stF g2)) = P2 p2 g2 := rfl
theorem own_Q3 (p2 g2 g3 : Int32) : (if (stF g3) = (stF p2) then (if (((stF g3) + (1 : Int32)) &&& (31 : Int32)) = (stF p2) then (((((stF g3) + (1 : Int32)) &&& (31 : Int32)) + (1 : Int32)) &&& (31 : Int32)) else (if (((stF g3) + (1 : Int32)) &&& (31 : Int32)) = (if (stF g2) = (stF p2) then (((stF g2) + (1 : Int32)) &&& (31 : Int32)) else (stF g2)) then (((((stF g3) + (1 : Int32)) &&& (31 : Int32)) + (1 : Int32)) &&& (31 : Int32)) else (((stF g3) + (1 : Int32)) &&& (31 : Int32)))) else (if (stF g3) = (if (stF g2) = (stF p2) then (((stF g2) + (1 : Int32)) &&& (31 : Int32)) else (stF g2)) then (if (((stF g3) + (1 : Int32)) &&& (31 : Int32)) = (stF p2) then (((((stF g3) + (1 : Int32)) &&& (31 : Int32)) + (1 : Int32)) &&& (31 : Int32)) else (if (((stF g3) + (1 : Int32)) &&& (31 : Int32)) = (if (stF g2) = (stF p2) then (((stF g2) + (1 : Int32)) &&& (31 : Int32)) else (stF g2)) then (((((stF g3) + (1 : Int32)) &&& (31 : Int32)) + (1 : Int32)) &&& (31 : Int32)) else (((stF g3) + (1 : Int32)) &&& (31 : Int32)))) else (stF g3))) = P3 p2 g2 g3 := by
  rw [own_or3, own_or3]
  rfl
theorem own_sl0 (z a b c : Int32) : slotF z (0 : Int32) a b c = (-1 : Int32) := by
  unfold slotF
  rw [if_pos (by decide : (0 : Int32) < 1), if_pos (by decide : (0 : Int32) < 2), if_pos (by decide : (0 : Int32) < 3)]
theorem own_sl1 (z a b c : Int32) : slotF z (1 : Int32) a b c = if z = a then (0 : Int32) else (-1 : Int32) := by
  unfold slotF
  rw [if_neg (by decide : ¬ (1 : Int32) < 1), if_pos (by decide : (1 : Int32) < 2), if_pos (by decide : (1 : Int32) < 3)]
theorem own_sl2 (z a b c : Int32) : slotF z (2 : Int32) a b c = if z = a then (0 : Int32) else if z = b then (1 : Int32) else (-1 : Int32) := by
  unfold slotF
  rw [if_neg (by decide : ¬ (2 : Int32) < 1), if_neg (by decide : ¬ (2 : Int32) < 2), if_pos (by decide : (2 : Int32) < 3)]
theorem own_sl3 (z a b c : Int32) : slotF z (3 : Int32) a b c = if z = a then (0 : Int32) else if z = b then (1 : Int32) else if z = c then (2 : Int32) else (-1 : Int32) := by
  unfold slotF
  rw [if_neg (by decide : ¬ (3 : Int32) < 1), if_neg (by decide : ¬ (3 : Int32) < 2), if_neg (by decide : ¬ (3 : Int32) < 3)]
theorem own_slot0 (p2 g2 g3 z : Int32) (hz : Pos z) {S0 : List Value} (hS0 : S0 = List.replicate 32 (Value.int (0 : Int32))) : entS (gi S0 z) = slotF z (0 : Int32) (stF p2) (P2 p2 g2) (P3 p2 g2 g3) := by
  rw [own_g0 S0 hS0, own_sl0]
  decide
theorem own_slot1 (p2 g2 g3 z : Int32) (hz : Pos z) {S0 S1 : List Value} (hS0 : S0 = List.replicate 32 (Value.int (0 : Int32))) (hS1 : S1 = S0.set (prF S0 (stF p2)).toNatClampNeg (.int (1 : Int32))) : entS (gi S1 z) = slotF z (1 : Int32) (stF p2) (P2 p2 g2) (P3 p2 g2 g3) := by
  rw [(own_g1 hS0 hS1).2 z hz, own_sl1]
  generalize stF p2 = a
  by_cases h : a = z
  · rw [if_pos h, if_pos h.symm]; decide
  · rw [if_neg h, if_neg (fun q : z = a => h q.symm)]; decide
theorem own_slot2 (p2 g2 g3 z : Int32) (hz : Pos z) {S0 S1 S2 : List Value} (hS0 : S0 = List.replicate 32 (Value.int (0 : Int32))) (hS1 : S1 = S0.set (prF S0 (stF p2)).toNatClampNeg (.int (1 : Int32))) (hS2 : S2 = S1.set (prF S1 (stF g2)).toNatClampNeg (.int (2 : Int32))) : entS (gi S2 z) = slotF z (2 : Int32) (stF p2) (P2 p2 g2) (P3 p2 g2 g3) := by
  rw [(own_g2 hS0 hS1 hS2).2 z hz, own_sl2]
  have d := (own_P2 p2 g2).2
  revert d
  generalize stF p2 = a
  generalize P2 p2 g2 = b
  intro d
  by_cases h : a = z
  · rw [if_neg (fun q : b = z => d (q.trans h.symm)), if_pos h, if_pos h.symm]; decide
  · by_cases h2 : b = z
    · rw [if_pos h2, if_neg (fun q : z = a => h q.symm), if_pos h2.symm]; decide
    · rw [if_neg h2, if_neg h, if_neg (fun q : z = a => h q.symm), if_neg (fun q : z = b => h2 q.symm)]; decide
theorem own_slot3 (p2 g2 g3 z : Int32) (hz : Pos z) {S0 S1 S2 S3 : List Value} (hS0 : S0 = List.replicate 32 (Value.int (0 : Int32))) (hS1 : S1 = S0.set (prF S0 (stF p2)).toNatClampNeg (.int (1 : Int32))) (hS2 : S2 = S1.set (prF S1 (stF g2)).toNatClampNeg (.int (2 : Int32))) (hS3 : S3 = S2.set (prF S2 (stF g3)).toNatClampNeg (.int (3 : Int32))) : entS (gi S3 z) = slotF z (3 : Int32) (stF p2) (P2 p2 g2) (P3 p2 g2 g3) := by
  rw [own_g3 hS0 hS1 hS2 hS3 z hz, own_sl3]
  have d := (own_P2 p2 g2).2
  have d1 := (own_P3 p2 g2 g3).2.1
  have d2 := (own_P3 p2 g2 g3).2.2
  revert d d1 d2
  generalize P3 p2 g2 g3 = f
  generalize stF p2 = a
  generalize P2 p2 g2 = b
  intro d d1 d2
  by_cases h : a = z
  · rw [if_neg (fun q : f = z => d1 (q.trans h.symm)), if_neg (fun q : b = z => d (q.trans h.symm)), if_pos h, if_pos h.symm]; decide
  · by_cases h2 : b = z
    · rw [if_neg (fun q : f = z => d2 (q.trans h2.symm)), if_pos h2, if_neg (fun q : z = a => h q.symm), if_pos h2.symm]; decide
    · by_cases h3 : f = z
      · rw [if_pos h3, if_neg (fun q : z = a => h q.symm), if_neg (fun q : z = b => h2 q.symm), if_pos h3.symm]; decide
      · rw [if_neg h3, if_neg h2, if_neg h, if_neg (fun q : z = a => h q.symm), if_neg (fun q : z = b => h2 q.symm), if_neg (fun q : z = f => h3 q.symm)]; decide
set_option maxRecDepth 65536 in
set_option maxHeartbeats 40000000 in
theorem rm0 (l : Launch) (Z : State) (a0 : Array Value) (hw : ∀ d ∈ tables_1, d.before a0 Z = true) (ws : List Jvm.Cond) (p1 p2 p3 p4 p5 p6 : Int32) (h0 : Heap) (n0 : Nat) (Z0 : n0 ≤ h0.size)  :
    MetFree l x (head1 (Jvm.Cond.code x code maxLocals ret :: ws) room_1) (fun a U => a = #[(.int p1), (.int p2), (.int p3), (.int p4), (.int p5), (.int p6)] ∧ Z.Warmed39 U.vm ∧ U.heap = h0) (fun _ _ _ _ _ => True) (fun _ U o U' => ∃ v L, o = .returned v ∧ QL n0 v U'.heap L ∧ FrameEnd U o U' L 16 192) := by
  refine own_enter pn_0 ?_
  intro p e s m below meth c s₁ QQ hQQ hx hby hml hown hnm hret hlk hZ X0 e0
  have hown : s.vm.findClass "com/example/bindery/bindery/PartIndexEntryAtPinLaw" = some m.cls := hown
  have hml : c.maxLocals = 16 := hml
  have hret : meth.sig.returnType = some .boolean := hret
  have N0 := Fr.nil n0
  have K0 := Keep.refl h0 []
  refine Goes.cast (ef_rm0 m p1 p2 p3 p4 p5 p6) ?_
  show Goes p e below QQ (s₁.setTop (mkF m 0 #[iv p1, iv p2, iv p3, iv p4, iv p5, iv p6, .unset, .unset, .unset, .unset, .unset, .unset, .unset, .unset, .unset, .unset] []))
  refine G1 (XS.iloadN X0.here hx rfl (hb hby at_0) rfl) ?_
  refine G1 (XS.iconst X0.here hx rfl (hb hby at_1)) ?_
  show Gs p e below QQ s₁ m 2 #[iv p1, iv p2, iv p3, iv p4, iv p5, iv p6, .unset, .unset, .unset, .unset, .unset, .unset, .unset, .unset, .unset, .unset] [(.int 1), (.int p1)]
  refine G1 (XS.iand X0.here hx rfl (hb hby at_2) rfl) ?_
  show Goes p e below QQ (s₁.setTop (mkF m 3 #[iv p1, iv p2, iv p3, iv p4, iv p5, iv p6, .unset, .unset, .unset, .unset, .unset, .unset, .unset, .unset, .unset, .unset] [(.int (p1 &&& (1 : Int32)))]))
  by_cases hb1 : (p1 &&& (1 : Int32)) = (0 : Int32)
  · refine G1 (XS.ifYes X0.here hx rfl (pc0 := 3) (pc' := 10) rfl (hb hby at_3) rfl ((if0 _ _).trans (teq hb1).1) (by decide) (by decide)) ?_
    show Gs p e below QQ s₁ m 10 #[iv p1, iv p2, iv p3, iv p4, iv p5, iv p6, .unset, .unset, .unset, .unset, .unset, .unset, .unset, .unset, .unset, .unset] []
    refine G1 (XS.iconst X0.here hx rfl (hb hby at_10)) ?_
    refine G1 (XS.istore X0.here hx rfl (hb hby at_11) rfl (l' := #[iv p1, iv p2, iv p3, iv p4, iv p5, iv p6, iv 0, .unset, .unset, .unset, .unset, .unset, .unset, .unset, .unset, .unset]) rfl) ?_
    refine G1 (XS.iloadN X0.here hx rfl (hb hby at_13) rfl) ?_
    show Gs p e below QQ s₁ m 14 #[iv p1, iv p2, iv p3, iv p4, iv p5, iv p6, iv 0, .unset, .unset, .unset, .unset, .unset, .unset, .unset, .unset, .unset] [(.int p1)]
    refine G1 (XS.iconst X0.here hx rfl (hb hby at_14)) ?_
    show Gs p e below QQ s₁ m 15 #[iv p1, iv p2, iv p3, iv p4, iv p5, iv p6, iv 0, .unset, .unset, .unset, .unset, .unset, .unset, .unset, .unset, .unset] [(.int 1), (.int p1)]
    refine G1 (XS.iushr X0.here hx rfl (hb hby at_15) rfl) ?_
    show Gs p e below QQ s₁ m 16 #[iv p1, iv p2, iv p3, iv p4, iv p5, iv p6, iv 0, .unset, .unset, .unset, .unset, .unset, .unset, .unset, .unset, .unset] [(.int ((p1.toUInt32 >>> ((1 : Int32) &&& 31).toUInt32).toInt32))]
    refine G1 (XS.iconst X0.here hx rfl (hb hby at_16)) ?_
    show Gs p e below QQ s₁ m 17 #[iv p1, iv p2, iv p3, iv p4, iv p5, iv p6, iv 0, .unset, .unset, .unset, .unset, .unset, .unset, .unset, .unset, .unset] [(.int 3), (.int ((p1.toUInt32 >>> ((1 : Int32) &&& 31).toUInt32).toInt32))]
    refine G1 (XS.iand X0.here hx rfl (hb hby at_17) rfl) ?_
    show Gs p e below QQ s₁ m 18 #[iv p1, iv p2, iv p3, iv p4, iv p5, iv p6, iv 0, .unset, .unset, .unset, .unset, .unset, .unset, .unset, .unset, .unset] [(.int (((p1.toUInt32 >>> ((1 : Int32) &&& 31).toUInt32).toInt32) &&& (3 : Int32)))]
    refine G1 (XS.istore X0.here hx rfl (hb hby at_18) rfl (l' := #[iv p1, iv p2, iv p3, iv p4, iv p5, iv p6, iv 0, iv (((p1.toUInt32 >>> ((1 : Int32) &&& 31).toUInt32).toInt32) &&& (3 : Int32)), .unset, .unset, .unset, .unset, .unset, .unset, .unset, .unset]) rfl) ?_
    show Goes p e below QQ (s₁.setTop (mkF m 20 #[iv p1, iv p2, iv p3, iv p4, iv p5, iv p6, iv 0, iv (((p1.toUInt32 >>> ((1 : Int32) &&& 31).toUInt32).toInt32) &&& (3 : Int32)), .unset, .unset, .unset, .unset, .unset, .unset, .unset, .unset] []))
    rcases own_four ((p1.toUInt32 >>> ((1 : Int32) &&& 31).toUInt32).toInt32) with hk | hk | hk | hk
    · rw [hk]
      show Goes p e below QQ (s₁.setTop (mkF m 20 #[iv p1, iv p2, iv p3, iv p4, iv p5, iv p6, iv 0, iv 0, .unset, .unset, .unset, .unset, .unset, .unset, .unset, .unset] []))
      refine G1 (XS.iloadN X0.here hx rfl (hb hby at_20) rfl) ?_
      refine G1 (XS.bipush X0.here hx rfl (hb hby at_21)) ?_
      show Gs p e below QQ s₁ m 23 #[iv p1, iv p2, iv p3, iv p4, iv p5, iv p6, iv 0, iv 0, .unset, .unset, .unset, .unset, .unset, .unset, .unset, .unset] [(.int 8), (.int p1)]
      refine G1 (XS.iand X0.here hx rfl (hb hby at_23) rfl) ?_
      show Goes p e below QQ (s₁.setTop (mkF m 24 #[iv p1, iv p2, iv p3, iv p4, iv p5, iv p6, iv 0, iv 0, .unset, .unset, .unset, .unset, .unset, .unset, .unset, .unset] [(.int (p1 &&& (8 : Int32)))]))
      have J2 : ∀ (TJ2 : State) (lJ2 : List Loc), Stand p l e room_1 s m #[(.int p1), (.int p2), (.int p3), (.int p4), (.int p5), (.int p6)] below meth c TJ2 lJ2 0 0 → TJ2.heap = h0 → Fr n0 lJ2 → Goes p e below QQ (TJ2.setTop (mkF m 32 #[iv p1, iv p2, iv p3, iv p4, iv p5, iv p6, iv 0, iv 0, .unset, .unset, .unset, .unset, .unset, .unset, .unset, .unset] [(.int (if (p1 &&& (8 : Int32)) = (0 : Int32) then p3 else p2))])) := by
        intro TJ2 lJ2 XJ2 eJ2 NJ2
        refine G1 (XS.istore XJ2.here hx rfl (hb hby at_32) rfl (l' := #[iv p1, iv p2, iv p3, iv p4, iv p5, iv p6, iv 0, iv 0, iv (if (p1 &&& (8 : Int32)) = (0 : Int32) then p3 else p2), .unset, .unset, .unset, .unset, .unset, .unset, .unset]) rfl) ?_
        refine G1 (XS.iloadN XJ2.here hx rfl (hb hby at_34) rfl) ?_
        refine G1 (XS.bipush XJ2.here hx rfl (hb hby at_35)) ?_
        show Gs p e below QQ TJ2 m 37 #[iv p1, iv p2, iv p3, iv p4, iv p5, iv p6, iv 0, iv 0, iv (if (p1 &&& (8 : Int32)) = (0 : Int32) then p3 else p2), .unset, .unset, .unset, .unset, .unset, .unset, .unset] [(.int 16), (.int p1)]
        refine G1 (XS.iand XJ2.here hx rfl (hb hby at_37) rfl) ?_
        show Goes p e below QQ (TJ2.setTop (mkF m 38 #[iv p1, iv p2, iv p3, iv p4, iv p5, iv p6, iv 0, iv 0, iv (if (p1 &&& (8 : Int32)) = (0 : Int32) then p3 else p2), .unset, .unset, .unset, .unset, .unset, .unset, .unset] [(.int (p1 &&& (16 : Int32)))]))
        have J3 : ∀ (TJ3 : State) (lJ3 : List Loc), Stand p l e room_1 s m #[(.int p1), (.int p2), (.int p3), (.int p4), (.int p5), (.int p6)] below meth c TJ3 lJ3 0 0 → TJ3.heap = h0 → Fr n0 lJ3 → Goes p e below QQ (TJ3.setTop (mkF m 58 #[iv p1, iv p2, iv p3, iv p4, iv p5, iv p6, iv 0, iv 0, iv (if (p1 &&& (8 : Int32)) = (0 : Int32) then p3 else p2), .unset, .unset, .unset, .unset, .unset, .unset, .unset] [(.int (if (p1 &&& (16 : Int32)) = (0 : Int32) then (if (p1 &&& (32 : Int32)) = (0 : Int32) then p4 else (if (p1 &&& (8 : Int32)) = (0 : Int32) then p3 else p2)) else p2))])) := by
          intro TJ3 lJ3 XJ3 eJ3 NJ3
          refine G1 (XS.istore XJ3.here hx rfl (hb hby at_58) rfl (l' := #[iv p1, iv p2, iv p3, iv p4, iv p5, iv p6, iv 0, iv 0, iv (if (p1 &&& (8 : Int32)) = (0 : Int32) then p3 else p2), iv (if (p1 &&& (16 : Int32)) = (0 : Int32) then (if (p1 &&& (32 : Int32)) = (0 : Int32) then p4 else (if (p1 &&& (8 : Int32)) = (0 : Int32) then p3 else p2)) else p2), .unset, .unset, .unset, .unset, .unset, .unset]) rfl) ?_
          show Goes p e below QQ (TJ3.setTop (mkF m 60 #[iv p1, iv p2, iv p3, iv p4, iv p5, iv p6, iv 0, iv 0, iv (if (p1 &&& (8 : Int32)) = (0 : Int32) then p3 else p2), iv (if (p1 &&& (16 : Int32)) = (0 : Int32) then (if (p1 &&& (32 : Int32)) = (0 : Int32) then p4 else (if (p1 &&& (8 : Int32)) = (0 : Int32) then p3 else p2)) else p2), .unset, .unset, .unset, .unset, .unset, .unset] []))
          generalize (if (p1 &&& (16 : Int32)) = (0 : Int32) then (if (p1 &&& (32 : Int32)) = (0 : Int32) then p4 else (if (p1 &&& (8 : Int32)) = (0 : Int32) then p3 else p2)) else p2) = g3
          generalize (if (p1 &&& (8 : Int32)) = (0 : Int32) then p3 else p2) = g2
          show Goes p e below QQ (TJ3.setTop (mkF m 60 #[iv p1, iv p2, iv p3, iv p4, iv p5, iv p6, iv 0, iv 0, iv g2, iv g3, .unset, .unset, .unset, .unset, .unset, .unset] []))
          refine G1 (XS.iload XJ3.here hx rfl (hb hby at_60) rfl) ?_
          show Gs p e below QQ TJ3 m 62 #[iv p1, iv p2, iv p3, iv p4, iv p5, iv p6, iv 0, iv 0, iv g2, iv g3, .unset, .unset, .unset, .unset, .unset, .unset] [(.int 0)]
          refine G1 (XS.ifYes XJ3.here hx rfl (pc0 := 62) (pc' := 76) rfl (hb hby at_62) rfl ((if0 _ _).trans (teq (by decide)).1) (by decide) (by decide)) ?_
          show Gs p e below QQ TJ3 m 76 #[iv p1, iv p2, iv p3, iv p4, iv p5, iv p6, iv 0, iv 0, iv g2, iv g3, .unset, .unset, .unset, .unset, .unset, .unset] []
          refine G1 (XS.iload XJ3.here hx rfl (hb hby at_76) rfl) ?_
          refine G1 (XS.bipush XJ3.here hx rfl (hb hby at_78)) ?_
          show Gs p e below QQ TJ3 m 80 #[iv p1, iv p2, iv p3, iv p4, iv p5, iv p6, iv 0, iv 0, iv g2, iv g3, .unset, .unset, .unset, .unset, .unset, .unset] [(.int 15), (.int p6)]
          refine G1 (XS.iand XJ3.here hx rfl (hb hby at_80) rfl) ?_
          show Gs p e below QQ TJ3 m 81 #[iv p1, iv p2, iv p3, iv p4, iv p5, iv p6, iv 0, iv 0, iv g2, iv g3, .unset, .unset, .unset, .unset, .unset, .unset] [(.int (p6 &&& (15 : Int32)))]
          refine G1 (XS.bipush XJ3.here hx rfl (hb hby at_81)) ?_
          show Gs p e below QQ TJ3 m 83 #[iv p1, iv p2, iv p3, iv p4, iv p5, iv p6, iv 0, iv 0, iv g2, iv g3, .unset, .unset, .unset, .unset, .unset, .unset] [(.int 8), (.int (p6 &&& (15 : Int32)))]
          refine G1 (XS.isub XJ3.here hx rfl (hb hby at_83) rfl) ?_
          show Gs p e below QQ TJ3 m 84 #[iv p1, iv p2, iv p3, iv p4, iv p5, iv p6, iv 0, iv 0, iv g2, iv g3, .unset, .unset, .unset, .unset, .unset, .unset] [(.int ((p6 &&& (15 : Int32)) - (8 : Int32)))]
          refine G1 (XS.istore XJ3.here hx rfl (hb hby at_84) rfl (l' := #[iv p1, iv p2, iv p3, iv p4, iv p5, iv p6, iv 0, iv 0, iv g2, iv g3, iv ((p6 &&& (15 : Int32)) - (8 : Int32)), .unset, .unset, .unset, .unset, .unset]) rfl) ?_
          show Goes p e below QQ (TJ3.setTop (mkF m 86 #[iv p1, iv p2, iv p3, iv p4, iv p5, iv p6, iv 0, iv 0, iv g2, iv g3, iv ((p6 &&& (15 : Int32)) - (8 : Int32)), .unset, .unset, .unset, .unset, .unset] []))
          obtain ⟨T4, h4, X4, e4, E4, A4, D4, -, st4⟩ := newO XJ3 hx hZ hown (wI hw 0 rfl) (wI hw 1 rfl) (wI hw 2 rfl) eJ3 (g := (mkF m 86 #[iv p1, iv p2, iv p3, iv p4, iv p5, iv p6, iv 0, iv 0, iv g2, iv g3, iv ((p6 &&& (15 : Int32)) - (8 : Int32)), .unset, .unset, .unset, .unset, .unset] [])) rfl (hb hby at_86) (by decide) (by decide)
          obtain ⟨b4, g4⟩ : ∃ z, z = h0.size := ⟨_, rfl⟩
          rw [← g4] at A4 D4 st4
          have sz_b4 : h0.size ≤ b4 := Nat.le_trans K0.1 (Nat.le_of_eq g4.symm)
          have g_b4 : n0 ≤ b4 := Nat.le_trans Z0 sz_b4
          have K4 := K0.ext E4
          have X4 : Stand p l e room_1 s m #[(.int p1), (.int p2), (.int p3), (.int p4), (.int p5), (.int p6)] below meth c T4 _ 1 4 := X4
          have F_5 : Fld Z h4 b4 "com/example/bindery/bindery/PartIndex" "hashes" "[I" .null := D4 (Or.inl (wI hw 22 rfl)) (ty := (.array .int)) (by decide)
          have F_6 : Fld Z h4 b4 "com/example/bindery/bindery/PartIndex" "slots" "[I" .null := D4 (Or.inl (wI hw 30 rfl)) (ty := (.array .int)) (by decide)
          have F_7 : Fld Z h4 b4 "com/example/bindery/bindery/PartIndex" "size" "I" (.int 0) := D4 (Or.inl (wI hw 32 rfl)) (ty := .int) (by decide)
          have F_8 : Fld Z h4 b4 "com/example/bindery/bindery/PartIndex" "shift" "I" (.int 0) := D4 (Or.inl (wI hw 61 rfl)) (ty := .int) (by decide)
          refine Goes.on (fun t k => st4 t k) ?_
          show Goes p e below QQ (T4.setTop (mkF m 89 #[iv p1, iv p2, iv p3, iv p4, iv p5, iv p6, iv 0, iv 0, iv g2, iv g3, iv ((p6 &&& (15 : Int32)) - (8 : Int32)), .unset, .unset, .unset, .unset, .unset] [(.ref b4)]))
          refine G1 (XS.dup X4.here hx rfl (hb hby at_89) rfl rfl) ?_
          refine G1 (XS.iload X4.here hx rfl (hb hby at_90) rfl) ?_
          show Goes p e below QQ (T4.setTop (mkF m 92 #[iv p1, iv p2, iv p3, iv p4, iv p5, iv p6, iv 0, iv 0, iv g2, iv g3, iv ((p6 &&& (15 : Int32)) - (8 : Int32)), .unset, .unset, .unset, .unset, .unset] [(.int ((p6 &&& (15 : Int32)) - (8 : Int32))), (.ref b4), (.ref b4)]))
          obtain ⟨nn, hr, hn⟩ := own_room0 p6
          obtain ⟨_, _, ⟨T9, L9, k9, n9⟩, -, X9, ⟨Lc9, hQ9, l9, y9, z9⟩, st9⟩ := X4.specialBack hx (y := (⟨"com/example/bindery/bindery/PartIndex", "<init>", "(I)V"⟩ : MethodName)) rfl hown (mvT hZ (wI hw 3 rfl)) (mvT hZ (wI hw 4 rfl)) (mvT hZ (wI hw 5 rfl)) (by decide) (backOf (W := 1) (rmIn0 l Z a0 hw [] b4 ((p6 &&& (15 : Int32)) - (8 : Int32)) nn h4 n0 (Nat.le_trans Z0 K4.1) A4 F_5 F_6 F_8 F_7 g_b4 hr hn) hZ (wI hw 5 rfl) (wI hw 2 rfl) (by decide) (by decide)) (g := (mkF m 92 #[iv p1, iv p2, iv p3, iv p4, iv p5, iv p6, iv 0, iv 0, iv g2, iv g3, iv ((p6 &&& (15 : Int32)) - (8 : Int32)), .unset, .unset, .unset, .unset, .unset] [(.int ((p6 &&& (15 : Int32)) - (8 : Int32))), (.ref b4), (.ref b4)])) rfl (by rw [hml]; rfl) (Steps.refl _) (a := b4) (argsL := [(.int ((p6 &&& (15 : Int32)) - (8 : Int32)))]) (rest := [(.ref b4)]) (lenOf pd_2 rfl) rfl (by show 2 * 0 + _ ≤ _; exact Nat.le_of_eq rfl) (hb hby at_92) (fun _ _ => ⟨rfl, e4, (by decide : 1 + 1 ≤ _), (by decide : 4 + 16 ≤ _)⟩)
          dsimp only [Pt.U, Pt.locs, Pt.cells, Pt.slots] at X9 l9 y9 z9 st9 hQ9
          have l9 := l9.symm; have y9 := y9.symm; have z9 := z9.symm; subst l9 y9 z9
          have X9 : Stand p l e room_1 s m #[(.int p1), (.int p2), (.int p3), (.int p4), (.int p5), (.int p6)] below meth c T9 _ 2 20 := X9
          obtain ⟨bh0, kh0, rfl, M9, Kc, szh, ⟨hashes_c, slots_c, shift_c, size_c⟩, Vh0⟩ := hQ9
          have sz_bh0 : h0.size ≤ bh0 := Nat.le_trans K4.1 szh
          have g_bh0 : n0 ≤ bh0 := Nat.le_trans Z0 sz_bh0
          have ne_b4_bh0 : b4 ≠ bh0 := Nat.ne_of_lt (Nat.lt_of_lt_of_le A4.lt szh)
          have N9 := Fr.app NJ3 M9
          refine Goes.on (fun t k => st9.trans k) ?_
          have A4_10 := A4.keep Kc
          have K15 := K4.trans Kc (allS (Or.inr sz_b4) all0)
          show Goes p e below QQ (T9.setTop (mkF m 95 #[iv p1, iv p2, iv p3, iv p4, iv p5, iv p6, iv 0, iv 0, iv g2, iv g3, iv ((p6 &&& (15 : Int32)) - (8 : Int32)), .unset, .unset, .unset, .unset, .unset] [(.ref b4)]))
          refine G1 (XS.astore X9.here hx rfl (hb hby at_95) rfl rfl (l' := #[iv p1, iv p2, iv p3, iv p4, iv p5, iv p6, iv 0, iv 0, iv g2, iv g3, iv ((p6 &&& (15 : Int32)) - (8 : Int32)), rv b4, .unset, .unset, .unset, .unset]) rfl) ?_
          refine G1 (XS.iload X9.here hx rfl (hb hby at_97) rfl) ?_
          refine G1 (XS.iconst X9.here hx rfl (hb hby at_99)) ?_
          show Gs p e below QQ T9 m 100 #[iv p1, iv p2, iv p3, iv p4, iv p5, iv p6, iv 0, iv 0, iv g2, iv g3, iv ((p6 &&& (15 : Int32)) - (8 : Int32)), rv b4, .unset, .unset, .unset, .unset] [(.int 1), (.int 0)]
          refine G1 (XS.icmpYes X9.here hx rfl (pc0 := 100) (pc' := 109) rfl (hb hby at_100) rfl (tlt (by decide)).1 (by decide) (by decide)) ?_
          show Gs p e below QQ T9 m 109 #[iv p1, iv p2, iv p3, iv p4, iv p5, iv p6, iv 0, iv 0, iv g2, iv g3, iv ((p6 &&& (15 : Int32)) - (8 : Int32)), rv b4, .unset, .unset, .unset, .unset] []
          refine G1 (XS.iload X9.here hx rfl (hb hby at_109) rfl) ?_
          refine G1 (XS.iconst X9.here hx rfl (hb hby at_111)) ?_
          show Gs p e below QQ T9 m 112 #[iv p1, iv p2, iv p3, iv p4, iv p5, iv p6, iv 0, iv 0, iv g2, iv g3, iv ((p6 &&& (15 : Int32)) - (8 : Int32)), rv b4, .unset, .unset, .unset, .unset] [(.int 2), (.int 0)]
          refine G1 (XS.icmpYes X9.here hx rfl (pc0 := 112) (pc' := 122) rfl (hb hby at_112) rfl (tlt (by decide)).1 (by decide) (by decide)) ?_
          show Gs p e below QQ T9 m 122 #[iv p1, iv p2, iv p3, iv p4, iv p5, iv p6, iv 0, iv 0, iv g2, iv g3, iv ((p6 &&& (15 : Int32)) - (8 : Int32)), rv b4, .unset, .unset, .unset, .unset] []
          refine G1 (XS.iload X9.here hx rfl (hb hby at_122) rfl) ?_
          refine G1 (XS.iconst X9.here hx rfl (hb hby at_124)) ?_
          show Gs p e below QQ T9 m 125 #[iv p1, iv p2, iv p3, iv p4, iv p5, iv p6, iv 0, iv 0, iv g2, iv g3, iv ((p6 &&& (15 : Int32)) - (8 : Int32)), rv b4, .unset, .unset, .unset, .unset] [(.int 3), (.int 0)]
          refine G1 (XS.icmpYes X9.here hx rfl (pc0 := 125) (pc' := 135) rfl (hb hby at_125) rfl (tlt (by decide)).1 (by decide) (by decide)) ?_
          show Gs p e below QQ T9 m 135 #[iv p1, iv p2, iv p3, iv p4, iv p5, iv p6, iv 0, iv 0, iv g2, iv g3, iv ((p6 &&& (15 : Int32)) - (8 : Int32)), rv b4, .unset, .unset, .unset, .unset] []
          refine G1 (XS.iload X9.here hx rfl (hb hby at_135) rfl) ?_
          show Gs p e below QQ T9 m 137 #[iv p1, iv p2, iv p3, iv p4, iv p5, iv p6, iv 0, iv 0, iv g2, iv g3, iv ((p6 &&& (15 : Int32)) - (8 : Int32)), rv b4, .unset, .unset, .unset, .unset] [(.int 0)]
          refine G1 (XS.ifNo X9.here hx rfl (hb hby at_137) rfl ((if0 _ _).trans (teq (by decide)).2)) ?_
          show Gs p e below QQ T9 m 140 #[iv p1, iv p2, iv p3, iv p4, iv p5, iv p6, iv 0, iv 0, iv g2, iv g3, iv ((p6 &&& (15 : Int32)) - (8 : Int32)), rv b4, .unset, .unset, .unset, .unset] []
          refine G1 (XS.iload X9.here hx rfl (hb hby at_140) rfl) ?_
          show Goes p e below QQ (T9.setTop (mkF m 142 #[iv p1, iv p2, iv p3, iv p4, iv p5, iv p6, iv 0, iv 0, iv g2, iv g3, iv ((p6 &&& (15 : Int32)) - (8 : Int32)), rv b4, .unset, .unset, .unset, .unset] [(.int p5)]))
          refine Goes.on (fun t k => X9.ldcInt hx hown (mvT hZ (wI hw 23 rfl)) (g := (mkF m 142 #[iv p1, iv p2, iv p3, iv p4, iv p5, iv p6, iv 0, iv 0, iv g2, iv g3, iv ((p6 &&& (15 : Int32)) - (8 : Int32)), rv b4, .unset, .unset, .unset, .unset] [(.int p5)])) rfl (hb hby at_142) t k) ?_
          show Goes p e below QQ (T9.setTop (mkF m 144 #[iv p1, iv p2, iv p3, iv p4, iv p5, iv p6, iv 0, iv 0, iv g2, iv g3, iv ((p6 &&& (15 : Int32)) - (8 : Int32)), rv b4, .unset, .unset, .unset, .unset] [(.int 2147483647), (.int p5)]))
          refine G1 (XS.iand X9.here hx rfl (hb hby at_144) rfl) ?_
          show Gs p e below QQ T9 m 145 #[iv p1, iv p2, iv p3, iv p4, iv p5, iv p6, iv 0, iv 0, iv g2, iv g3, iv ((p6 &&& (15 : Int32)) - (8 : Int32)), rv b4, .unset, .unset, .unset, .unset] [(.int (p5 &&& (2147483647 : Int32)))]
          refine G1 (XS.istore X9.here hx rfl (hb hby at_145) rfl (l' := #[iv p1, iv p2, iv p3, iv p4, iv p5, iv p6, iv 0, iv 0, iv g2, iv g3, iv ((p6 &&& (15 : Int32)) - (8 : Int32)), rv b4, iv (p5 &&& (2147483647 : Int32)), .unset, .unset, .unset]) rfl) ?_
          refine G1 (XS.iload X9.here hx rfl (hb hby at_147) rfl) ?_
          show Goes p e below QQ (T9.setTop (mkF m 149 #[iv p1, iv p2, iv p3, iv p4, iv p5, iv p6, iv 0, iv 0, iv g2, iv g3, iv ((p6 &&& (15 : Int32)) - (8 : Int32)), rv b4, iv (p5 &&& (2147483647 : Int32)), .unset, .unset, .unset] [(.int 0)]))
          have J16 : ∀ (TJ16 : State) (lJ16 : List Loc), Stand p l e room_1 s m #[(.int p1), (.int p2), (.int p3), (.int p4), (.int p5), (.int p6)] below meth c TJ16 lJ16 2 20 → TJ16.heap = T9.heap → Fr n0 lJ16 → Goes p e below QQ (TJ16.setTop (mkF m 160 #[iv p1, iv p2, iv p3, iv p4, iv p5, iv p6, iv 0, iv 0, iv g2, iv g3, iv ((p6 &&& (15 : Int32)) - (8 : Int32)), rv b4, iv (p5 &&& (2147483647 : Int32)), .unset, .unset, .unset] [(.int 0)])) := by
            intro TJ16 lJ16 XJ16 eJ16 NJ16
            refine G1 (XS.istore XJ16.here hx rfl (hb hby at_160) rfl (l' := #[iv p1, iv p2, iv p3, iv p4, iv p5, iv p6, iv 0, iv 0, iv g2, iv g3, iv ((p6 &&& (15 : Int32)) - (8 : Int32)), rv b4, iv (p5 &&& (2147483647 : Int32)), iv 0, .unset, .unset]) rfl) ?_
            refine G1 (XS.aload XJ16.here hx rfl (hb hby at_162) rfl rfl) ?_
            refine G1 (XS.iload XJ16.here hx rfl (hb hby at_164) rfl) ?_
            show Goes p e below QQ (TJ16.setTop (mkF m 166 #[iv p1, iv p2, iv p3, iv p4, iv p5, iv p6, iv 0, iv 0, iv g2, iv g3, iv ((p6 &&& (15 : Int32)) - (8 : Int32)), rv b4, iv (p5 &&& (2147483647 : Int32)), iv 0, .unset, .unset] [(.int (p5 &&& (2147483647 : Int32))), (.ref b4)]))
            obtain ⟨cq17, kq17, q17a, q17b, q17c⟩ := isOf hZ eJ16 A4_10
            obtain ⟨_, _, ⟨T17, L17, k17, n17⟩, -, X17, ⟨Lc17, hQ17, l17, y17, z17⟩, st17⟩ := XJ16.virtualBack hx (y := (⟨"com/example/bindery/bindery/PartIndex", "entryAt", "(I)I"⟩ : MethodName)) (z := (⟨"com/example/bindery/bindery/PartIndex", "entryAt", "(I)I"⟩ : MethodName)) hown (mvT hZ (wI hw 24 rfl)) (mvT hZ (wI hw 25 rfl)) (notFace_of_selects (args := #[]) (mvT hZ (wI hw 27 rfl))) (mvT hZ (wI hw 27 rfl)) (mvT hZ (wI hw 26 rfl)) (by decide) (backOf (W := 0) (rmE0 l Z a0 hw [] b4 (p5 &&& (2147483647 : Int32)) (0 : Int32) T9.heap n0 (Nat.le_trans Z0 K15.1) slots_c size_c) hZ (wI hw 28 rfl) (wI hw 2 rfl) (by decide) (by decide)) q17a q17c (g := (mkF m 166 #[iv p1, iv p2, iv p3, iv p4, iv p5, iv p6, iv 0, iv 0, iv g2, iv g3, iv ((p6 &&& (15 : Int32)) - (8 : Int32)), rv b4, iv (p5 &&& (2147483647 : Int32)), iv 0, .unset, .unset] [(.int (p5 &&& (2147483647 : Int32))), (.ref b4)])) rfl (by rw [hml]; rfl) (Steps.refl _) (argsL := [(.int (p5 &&& (2147483647 : Int32)))]) (rest := []) (lenOf pd_1 rfl) rfl (by show 2 * 0 + _ ≤ _; exact Nat.le_of_eq rfl) (hb hby at_166) (fun _ _ => ⟨rfl, eJ16, (by decide : 2 + 0 ≤ _), (by decide : 20 + 0 ≤ _)⟩)
            dsimp only [Pt.U, Pt.locs, Pt.cells, Pt.slots] at X17 l17 y17 z17 st17 hQ17
            have l17 := l17.symm; have y17 := y17.symm; have z17 := z17.symm; subst l17 y17 z17
            have X17 : Stand p l e room_1 s m #[(.int p1), (.int p2), (.int p3), (.int p4), (.int p5), (.int p6)] below meth c T17 _ 2 20 := X17
            obtain ⟨rfl, M17, e17⟩ := hQ17
            have N17 := Fr.app NJ16 M17
            refine Goes.on (fun t k => st17.trans k) ?_
            show Goes p e below QQ (T17.setTop (mkF m 169 #[iv p1, iv p2, iv p3, iv p4, iv p5, iv p6, iv 0, iv 0, iv g2, iv g3, iv ((p6 &&& (15 : Int32)) - (8 : Int32)), rv b4, iv (p5 &&& (2147483647 : Int32)), iv 0, .unset, .unset] [(.int (entF (p5 &&& (2147483647 : Int32)) (0 : Int32)))]))
            refine G1 (XS.iload X17.here hx rfl (hb hby at_169) rfl) ?_
            refine G1 (XS.iload X17.here hx rfl (hb hby at_171) rfl) ?_
            show Goes p e below QQ (T17.setTop (mkF m 173 #[iv p1, iv p2, iv p3, iv p4, iv p5, iv p6, iv 0, iv 0, iv g2, iv g3, iv ((p6 &&& (15 : Int32)) - (8 : Int32)), rv b4, iv (p5 &&& (2147483647 : Int32)), iv 0, .unset, .unset] [(.int 0), (.int (p5 &&& (2147483647 : Int32))), (.int (entF (p5 &&& (2147483647 : Int32)) (0 : Int32)))]))
            obtain ⟨_, _, ⟨T18, L18, k18, n18⟩, -, X18, ⟨Lc18, hQ18, l18, y18, z18⟩, st18⟩ := Jvm.LawKit.callS X17 hx (y := (⟨"com/example/bindery/bindery/PartIndexEntryAtPinLaw", "few", "(II)I"⟩ : MethodName)) hown (mvT hZ (wI hw 33 rfl)) (mvT hZ (wI hw 34 rfl)) (mvT hZ (wI hw 35 rfl)) (mvT hZ (wI hw 36 rfl)) (by decide) (backOf (W := 1) (rmFe l Z a0 hw [] (p5 &&& (2147483647 : Int32)) (0 : Int32) T9.heap n0 (Nat.le_trans Z0 K15.1) ) hZ (wI hw 36 rfl) (wI hw 35 rfl) (by decide) (by decide)) (g := (mkF m 173 #[iv p1, iv p2, iv p3, iv p4, iv p5, iv p6, iv 0, iv 0, iv g2, iv g3, iv ((p6 &&& (15 : Int32)) - (8 : Int32)), rv b4, iv (p5 &&& (2147483647 : Int32)), iv 0, .unset, .unset] [(.int 0), (.int (p5 &&& (2147483647 : Int32))), (.int (entF (p5 &&& (2147483647 : Int32)) (0 : Int32)))])) rfl (by rw [hml]; rfl) (argsL := [(.int (p5 &&& (2147483647 : Int32))), (.int 0)]) (rest := [(.int (entF (p5 &&& (2147483647 : Int32)) (0 : Int32)))]) (lenOf pd_0 rfl) rfl (by show 2 * 0 + _ ≤ _; exact Nat.le_of_eq rfl) (hb hby at_173) (fun _ _ => ⟨rfl, e17, (by decide : 2 + 0 ≤ _), (by decide : 20 + 0 ≤ _)⟩)
            dsimp only [Pt.U, Pt.locs, Pt.cells, Pt.slots] at X18 l18 y18 z18 st18 hQ18
            have l18 := l18.symm; have y18 := y18.symm; have z18 := z18.symm; subst l18 y18 z18
            have X18 : Stand p l e room_1 s m #[(.int p1), (.int p2), (.int p3), (.int p4), (.int p5), (.int p6)] below meth c T18 _ 2 20 := X18
            obtain ⟨rfl, M18, e18⟩ := hQ18
            have N18 := Fr.app N17 M18
            refine Goes.on (fun t k => st18 _ k) ?_
            show Goes p e below QQ (T18.setTop (mkF m 176 #[iv p1, iv p2, iv p3, iv p4, iv p5, iv p6, iv 0, iv 0, iv g2, iv g3, iv ((p6 &&& (15 : Int32)) - (8 : Int32)), rv b4, iv (p5 &&& (2147483647 : Int32)), iv 0, .unset, .unset] [(.int (fewF (p5 &&& (2147483647 : Int32)) (0 : Int32))), (.int (entF (p5 &&& (2147483647 : Int32)) (0 : Int32)))]))
            refine G1 (XS.icmpNo X18.here hx rfl (hb hby at_176) rfl (teq rfl).2) ?_
            show Gs p e below QQ T18 m 179 #[iv p1, iv p2, iv p3, iv p4, iv p5, iv p6, iv 0, iv 0, iv g2, iv g3, iv ((p6 &&& (15 : Int32)) - (8 : Int32)), rv b4, iv (p5 &&& (2147483647 : Int32)), iv 0, .unset, .unset] []
            refine G1 (XS.aload X18.here hx rfl (hb hby at_179) rfl rfl) ?_
            refine G1 (XS.iconst X18.here hx rfl (hb hby at_181)) ?_
            show Goes p e below QQ (T18.setTop (mkF m 182 #[iv p1, iv p2, iv p3, iv p4, iv p5, iv p6, iv 0, iv 0, iv g2, iv g3, iv ((p6 &&& (15 : Int32)) - (8 : Int32)), rv b4, iv (p5 &&& (2147483647 : Int32)), iv 0, .unset, .unset] [(.int 0), (.ref b4)]))
            obtain ⟨cq19, kq19, q19a, q19b, q19c⟩ := isOf hZ e18 A4_10
            obtain ⟨_, _, ⟨T19, L19, k19, n19⟩, -, X19, ⟨Lc19, hQ19, l19, y19, z19⟩, st19⟩ := X18.virtualBack hx (y := (⟨"com/example/bindery/bindery/PartIndex", "entryAt", "(I)I"⟩ : MethodName)) (z := (⟨"com/example/bindery/bindery/PartIndex", "entryAt", "(I)I"⟩ : MethodName)) hown (mvT hZ (wI hw 24 rfl)) (mvT hZ (wI hw 25 rfl)) (notFace_of_selects (args := #[]) (mvT hZ (wI hw 27 rfl))) (mvT hZ (wI hw 27 rfl)) (mvT hZ (wI hw 26 rfl)) (by decide) (backOf (W := 0) (rmE0 l Z a0 hw [] b4 (0 : Int32) (0 : Int32) T9.heap n0 (Nat.le_trans Z0 K15.1) slots_c size_c) hZ (wI hw 28 rfl) (wI hw 2 rfl) (by decide) (by decide)) q19a q19c (g := (mkF m 182 #[iv p1, iv p2, iv p3, iv p4, iv p5, iv p6, iv 0, iv 0, iv g2, iv g3, iv ((p6 &&& (15 : Int32)) - (8 : Int32)), rv b4, iv (p5 &&& (2147483647 : Int32)), iv 0, .unset, .unset] [(.int 0), (.ref b4)])) rfl (by rw [hml]; rfl) (Steps.refl _) (argsL := [(.int 0)]) (rest := []) (lenOf pd_1 rfl) rfl (by show 2 * 0 + _ ≤ _; exact Nat.le_of_eq rfl) (hb hby at_182) (fun _ _ => ⟨rfl, e18, (by decide : 2 + 0 ≤ _), (by decide : 20 + 0 ≤ _)⟩)
            dsimp only [Pt.U, Pt.locs, Pt.cells, Pt.slots] at X19 l19 y19 z19 st19 hQ19
            have l19 := l19.symm; have y19 := y19.symm; have z19 := z19.symm; subst l19 y19 z19
            have X19 : Stand p l e room_1 s m #[(.int p1), (.int p2), (.int p3), (.int p4), (.int p5), (.int p6)] below meth c T19 _ 2 20 := X19
            obtain ⟨rfl, M19, e19⟩ := hQ19
            have N19 := Fr.app N18 M19
            refine Goes.on (fun t k => st19.trans k) ?_
            show Goes p e below QQ (T19.setTop (mkF m 185 #[iv p1, iv p2, iv p3, iv p4, iv p5, iv p6, iv 0, iv 0, iv g2, iv g3, iv ((p6 &&& (15 : Int32)) - (8 : Int32)), rv b4, iv (p5 &&& (2147483647 : Int32)), iv 0, .unset, .unset] [(.int (entF (0 : Int32) (0 : Int32)))]))
            refine G1 (XS.iconst X19.here hx rfl (hb hby at_185)) ?_
            refine G1 (XS.iload X19.here hx rfl (hb hby at_186) rfl) ?_
            show Goes p e below QQ (T19.setTop (mkF m 188 #[iv p1, iv p2, iv p3, iv p4, iv p5, iv p6, iv 0, iv 0, iv g2, iv g3, iv ((p6 &&& (15 : Int32)) - (8 : Int32)), rv b4, iv (p5 &&& (2147483647 : Int32)), iv 0, .unset, .unset] [(.int 0), (.int 0), (.int (entF (0 : Int32) (0 : Int32)))]))
            obtain ⟨_, _, ⟨T20, L20, k20, n20⟩, -, X20, ⟨Lc20, hQ20, l20, y20, z20⟩, st20⟩ := Jvm.LawKit.callS X19 hx (y := (⟨"com/example/bindery/bindery/PartIndexEntryAtPinLaw", "few", "(II)I"⟩ : MethodName)) hown (mvT hZ (wI hw 33 rfl)) (mvT hZ (wI hw 34 rfl)) (mvT hZ (wI hw 35 rfl)) (mvT hZ (wI hw 36 rfl)) (by decide) (backOf (W := 1) (rmFe l Z a0 hw [] (0 : Int32) (0 : Int32) T9.heap n0 (Nat.le_trans Z0 K15.1) ) hZ (wI hw 36 rfl) (wI hw 35 rfl) (by decide) (by decide)) (g := (mkF m 188 #[iv p1, iv p2, iv p3, iv p4, iv p5, iv p6, iv 0, iv 0, iv g2, iv g3, iv ((p6 &&& (15 : Int32)) - (8 : Int32)), rv b4, iv (p5 &&& (2147483647 : Int32)), iv 0, .unset, .unset] [(.int 0), (.int 0), (.int (entF (0 : Int32) (0 : Int32)))])) rfl (by rw [hml]; rfl) (argsL := [(.int 0), (.int 0)]) (rest := [(.int (entF (0 : Int32) (0 : Int32)))]) (lenOf pd_0 rfl) rfl (by show 2 * 0 + _ ≤ _; exact Nat.le_of_eq rfl) (hb hby at_188) (fun _ _ => ⟨rfl, e19, (by decide : 2 + 0 ≤ _), (by decide : 20 + 0 ≤ _)⟩)
            dsimp only [Pt.U, Pt.locs, Pt.cells, Pt.slots] at X20 l20 y20 z20 st20 hQ20
            have l20 := l20.symm; have y20 := y20.symm; have z20 := z20.symm; subst l20 y20 z20
            have X20 : Stand p l e room_1 s m #[(.int p1), (.int p2), (.int p3), (.int p4), (.int p5), (.int p6)] below meth c T20 _ 2 20 := X20
            obtain ⟨rfl, M20, e20⟩ := hQ20
            have N20 := Fr.app N19 M20
            refine Goes.on (fun t k => st20 _ k) ?_
            show Goes p e below QQ (T20.setTop (mkF m 191 #[iv p1, iv p2, iv p3, iv p4, iv p5, iv p6, iv 0, iv 0, iv g2, iv g3, iv ((p6 &&& (15 : Int32)) - (8 : Int32)), rv b4, iv (p5 &&& (2147483647 : Int32)), iv 0, .unset, .unset] [(.int (fewF (0 : Int32) (0 : Int32))), (.int (entF (0 : Int32) (0 : Int32)))]))
            refine G1 (XS.icmpNo X20.here hx rfl (hb hby at_191) rfl (teq rfl).2) ?_
            show Gs p e below QQ T20 m 194 #[iv p1, iv p2, iv p3, iv p4, iv p5, iv p6, iv 0, iv 0, iv g2, iv g3, iv ((p6 &&& (15 : Int32)) - (8 : Int32)), rv b4, iv (p5 &&& (2147483647 : Int32)), iv 0, .unset, .unset] []
            refine G1 (XS.aload X20.here hx rfl (hb hby at_194) rfl rfl) ?_
            refine G1 (XS.iload X20.here hx rfl (hb hby at_196) rfl) ?_
            show Goes p e below QQ (T20.setTop (mkF m 198 #[iv p1, iv p2, iv p3, iv p4, iv p5, iv p6, iv 0, iv 0, iv g2, iv g3, iv ((p6 &&& (15 : Int32)) - (8 : Int32)), rv b4, iv (p5 &&& (2147483647 : Int32)), iv 0, .unset, .unset] [(.int 0), (.ref b4)]))
            obtain ⟨cq21, kq21, q21a, q21b, q21c⟩ := isOf hZ e20 A4_10
            obtain ⟨_, _, ⟨T21, L21, k21, n21⟩, -, X21, ⟨Lc21, hQ21, l21, y21, z21⟩, st21⟩ := X20.virtualBack hx (y := (⟨"com/example/bindery/bindery/PartIndex", "entryAt", "(I)I"⟩ : MethodName)) (z := (⟨"com/example/bindery/bindery/PartIndex", "entryAt", "(I)I"⟩ : MethodName)) hown (mvT hZ (wI hw 24 rfl)) (mvT hZ (wI hw 25 rfl)) (notFace_of_selects (args := #[]) (mvT hZ (wI hw 27 rfl))) (mvT hZ (wI hw 27 rfl)) (mvT hZ (wI hw 26 rfl)) (by decide) (backOf (W := 0) (rmE0 l Z a0 hw [] b4 (0 : Int32) (0 : Int32) T9.heap n0 (Nat.le_trans Z0 K15.1) slots_c size_c) hZ (wI hw 28 rfl) (wI hw 2 rfl) (by decide) (by decide)) q21a q21c (g := (mkF m 198 #[iv p1, iv p2, iv p3, iv p4, iv p5, iv p6, iv 0, iv 0, iv g2, iv g3, iv ((p6 &&& (15 : Int32)) - (8 : Int32)), rv b4, iv (p5 &&& (2147483647 : Int32)), iv 0, .unset, .unset] [(.int 0), (.ref b4)])) rfl (by rw [hml]; rfl) (Steps.refl _) (argsL := [(.int 0)]) (rest := []) (lenOf pd_1 rfl) rfl (by show 2 * 0 + _ ≤ _; exact Nat.le_of_eq rfl) (hb hby at_198) (fun _ _ => ⟨rfl, e20, (by decide : 2 + 0 ≤ _), (by decide : 20 + 0 ≤ _)⟩)
            dsimp only [Pt.U, Pt.locs, Pt.cells, Pt.slots] at X21 l21 y21 z21 st21 hQ21
            have l21 := l21.symm; have y21 := y21.symm; have z21 := z21.symm; subst l21 y21 z21
            have X21 : Stand p l e room_1 s m #[(.int p1), (.int p2), (.int p3), (.int p4), (.int p5), (.int p6)] below meth c T21 _ 2 20 := X21
            obtain ⟨rfl, M21, e21⟩ := hQ21
            have N21 := Fr.app N20 M21
            refine Goes.on (fun t k => st21.trans k) ?_
            show Goes p e below QQ (T21.setTop (mkF m 201 #[iv p1, iv p2, iv p3, iv p4, iv p5, iv p6, iv 0, iv 0, iv g2, iv g3, iv ((p6 &&& (15 : Int32)) - (8 : Int32)), rv b4, iv (p5 &&& (2147483647 : Int32)), iv 0, .unset, .unset] [(.int (entF (0 : Int32) (0 : Int32)))]))
            refine G1 (XS.iconst X21.here hx rfl (hb hby at_201)) ?_
            show Gs p e below QQ T21 m 202 #[iv p1, iv p2, iv p3, iv p4, iv p5, iv p6, iv 0, iv 0, iv g2, iv g3, iv ((p6 &&& (15 : Int32)) - (8 : Int32)), rv b4, iv (p5 &&& (2147483647 : Int32)), iv 0, .unset, .unset] [(.int (-1)), (.int (entF (0 : Int32) (0 : Int32)))]
            refine G1 (XS.icmpNo X21.here hx rfl (hb hby at_202) rfl (teq (by decide)).2) ?_
            show Gs p e below QQ T21 m 205 #[iv p1, iv p2, iv p3, iv p4, iv p5, iv p6, iv 0, iv 0, iv g2, iv g3, iv ((p6 &&& (15 : Int32)) - (8 : Int32)), rv b4, iv (p5 &&& (2147483647 : Int32)), iv 0, .unset, .unset] []
            refine G1 (XS.aload X21.here hx rfl (hb hby at_205) rfl rfl) ?_
            refine G1 (XS.iload X21.here hx rfl (hb hby at_207) rfl) ?_
            show Goes p e below QQ (T21.setTop (mkF m 209 #[iv p1, iv p2, iv p3, iv p4, iv p5, iv p6, iv 0, iv 0, iv g2, iv g3, iv ((p6 &&& (15 : Int32)) - (8 : Int32)), rv b4, iv (p5 &&& (2147483647 : Int32)), iv 0, .unset, .unset] [(.int 0), (.ref b4)]))
            obtain ⟨cq22, kq22, q22a, q22b, q22c⟩ := isOf hZ e21 A4_10
            obtain ⟨_, _, ⟨T22, L22, k22, n22⟩, -, X22, ⟨Lc22, hQ22, l22, y22, z22⟩, st22⟩ := X21.virtualBack hx (y := (⟨"com/example/bindery/bindery/PartIndex", "entryAt", "(I)I"⟩ : MethodName)) (z := (⟨"com/example/bindery/bindery/PartIndex", "entryAt", "(I)I"⟩ : MethodName)) hown (mvT hZ (wI hw 24 rfl)) (mvT hZ (wI hw 25 rfl)) (notFace_of_selects (args := #[]) (mvT hZ (wI hw 27 rfl))) (mvT hZ (wI hw 27 rfl)) (mvT hZ (wI hw 26 rfl)) (by decide) (backOf (W := 0) (rmE0 l Z a0 hw [] b4 (0 : Int32) (0 : Int32) T9.heap n0 (Nat.le_trans Z0 K15.1) slots_c size_c) hZ (wI hw 28 rfl) (wI hw 2 rfl) (by decide) (by decide)) q22a q22c (g := (mkF m 209 #[iv p1, iv p2, iv p3, iv p4, iv p5, iv p6, iv 0, iv 0, iv g2, iv g3, iv ((p6 &&& (15 : Int32)) - (8 : Int32)), rv b4, iv (p5 &&& (2147483647 : Int32)), iv 0, .unset, .unset] [(.int 0), (.ref b4)])) rfl (by rw [hml]; rfl) (Steps.refl _) (argsL := [(.int 0)]) (rest := []) (lenOf pd_1 rfl) rfl (by show 2 * 0 + _ ≤ _; exact Nat.le_of_eq rfl) (hb hby at_209) (fun _ _ => ⟨rfl, e21, (by decide : 2 + 0 ≤ _), (by decide : 20 + 0 ≤ _)⟩)
            dsimp only [Pt.U, Pt.locs, Pt.cells, Pt.slots] at X22 l22 y22 z22 st22 hQ22
            have l22 := l22.symm; have y22 := y22.symm; have z22 := z22.symm; subst l22 y22 z22
            have X22 : Stand p l e room_1 s m #[(.int p1), (.int p2), (.int p3), (.int p4), (.int p5), (.int p6)] below meth c T22 _ 2 20 := X22
            obtain ⟨rfl, M22, e22⟩ := hQ22
            have N22 := Fr.app N21 M22
            refine Goes.on (fun t k => st22.trans k) ?_
            show Goes p e below QQ (T22.setTop (mkF m 212 #[iv p1, iv p2, iv p3, iv p4, iv p5, iv p6, iv 0, iv 0, iv g2, iv g3, iv ((p6 &&& (15 : Int32)) - (8 : Int32)), rv b4, iv (p5 &&& (2147483647 : Int32)), iv 0, .unset, .unset] [(.int (entF (0 : Int32) (0 : Int32)))]))
            refine G1 (XS.iload X22.here hx rfl (hb hby at_212) rfl) ?_
            refine G1 (XS.iload X22.here hx rfl (hb hby at_214) rfl) ?_
            show Goes p e below QQ (T22.setTop (mkF m 216 #[iv p1, iv p2, iv p3, iv p4, iv p5, iv p6, iv 0, iv 0, iv g2, iv g3, iv ((p6 &&& (15 : Int32)) - (8 : Int32)), rv b4, iv (p5 &&& (2147483647 : Int32)), iv 0, .unset, .unset] [(.int 0), (.int 0), (.int (entF (0 : Int32) (0 : Int32)))]))
            obtain ⟨_, _, ⟨T23, L23, k23, n23⟩, -, X23, ⟨Lc23, hQ23, l23, y23, z23⟩, st23⟩ := Jvm.LawKit.callS X22 hx (y := (⟨"com/example/bindery/bindery/PartIndexEntryAtPinLaw", "few", "(II)I"⟩ : MethodName)) hown (mvT hZ (wI hw 33 rfl)) (mvT hZ (wI hw 34 rfl)) (mvT hZ (wI hw 35 rfl)) (mvT hZ (wI hw 36 rfl)) (by decide) (backOf (W := 1) (rmFe l Z a0 hw [] (0 : Int32) (0 : Int32) T9.heap n0 (Nat.le_trans Z0 K15.1) ) hZ (wI hw 36 rfl) (wI hw 35 rfl) (by decide) (by decide)) (g := (mkF m 216 #[iv p1, iv p2, iv p3, iv p4, iv p5, iv p6, iv 0, iv 0, iv g2, iv g3, iv ((p6 &&& (15 : Int32)) - (8 : Int32)), rv b4, iv (p5 &&& (2147483647 : Int32)), iv 0, .unset, .unset] [(.int 0), (.int 0), (.int (entF (0 : Int32) (0 : Int32)))])) rfl (by rw [hml]; rfl) (argsL := [(.int 0), (.int 0)]) (rest := [(.int (entF (0 : Int32) (0 : Int32)))]) (lenOf pd_0 rfl) rfl (by show 2 * 0 + _ ≤ _; exact Nat.le_of_eq rfl) (hb hby at_216) (fun _ _ => ⟨rfl, e22, (by decide : 2 + 0 ≤ _), (by decide : 20 + 0 ≤ _)⟩)
            dsimp only [Pt.U, Pt.locs, Pt.cells, Pt.slots] at X23 l23 y23 z23 st23 hQ23
            have l23 := l23.symm; have y23 := y23.symm; have z23 := z23.symm; subst l23 y23 z23
            have X23 : Stand p l e room_1 s m #[(.int p1), (.int p2), (.int p3), (.int p4), (.int p5), (.int p6)] below meth c T23 _ 2 20 := X23
            obtain ⟨rfl, M23, e23⟩ := hQ23
            have N23 := Fr.app N22 M23
            refine Goes.on (fun t k => st23 _ k) ?_
            show Goes p e below QQ (T23.setTop (mkF m 219 #[iv p1, iv p2, iv p3, iv p4, iv p5, iv p6, iv 0, iv 0, iv g2, iv g3, iv ((p6 &&& (15 : Int32)) - (8 : Int32)), rv b4, iv (p5 &&& (2147483647 : Int32)), iv 0, .unset, .unset] [(.int (fewF (0 : Int32) (0 : Int32))), (.int (entF (0 : Int32) (0 : Int32)))]))
            refine G1 (XS.icmpNo X23.here hx rfl (hb hby at_219) rfl (teq rfl).2) ?_
            show Gs p e below QQ T23 m 222 #[iv p1, iv p2, iv p3, iv p4, iv p5, iv p6, iv 0, iv 0, iv g2, iv g3, iv ((p6 &&& (15 : Int32)) - (8 : Int32)), rv b4, iv (p5 &&& (2147483647 : Int32)), iv 0, .unset, .unset] []
            refine G1 (XS.iconst X23.here hx rfl (hb hby at_222)) ?_
            refine G1 (XS.goto X23.here hx rfl (pc0 := 223) (pc' := 227) rfl (hb hby at_223) (by decide) (by decide)) ?_
            show Goes p e below QQ (T23.setTop (mkF m 227 #[iv p1, iv p2, iv p3, iv p4, iv p5, iv p6, iv 0, iv 0, iv g2, iv g3, iv ((p6 &&& (15 : Int32)) - (8 : Int32)), rv b4, iv (p5 &&& (2147483647 : Int32)), iv 0, .unset, .unset] [(.int 1)]))
            exact Goes.rN X23 hx (t := .boolean) hret (by simp) hlk (hb hby at_227) hQQ ⟨rfl, N23⟩ (by decide) (by decide)
          show Goes p e below QQ (T9.setTop (mkF m 149 #[iv p1, iv p2, iv p3, iv p4, iv p5, iv p6, iv 0, iv 0, iv g2, iv g3, iv ((p6 &&& (15 : Int32)) - (8 : Int32)), rv b4, iv (p5 &&& (2147483647 : Int32)), .unset, .unset, .unset] [(.int 0)]))
          refine G1 (XS.ifYes X9.here hx rfl (pc0 := 149) (pc' := 159) rfl (hb hby at_149) rfl ((if0 _ _).trans (flt (by decide)).2.2.2) (by decide) (by decide)) ?_
          show Gs p e below QQ T9 m 159 #[iv p1, iv p2, iv p3, iv p4, iv p5, iv p6, iv 0, iv 0, iv g2, iv g3, iv ((p6 &&& (15 : Int32)) - (8 : Int32)), rv b4, iv (p5 &&& (2147483647 : Int32)), .unset, .unset, .unset] []
          refine G1 (XS.iconst X9.here hx rfl (hb hby at_159)) ?_
          show Goes p e below QQ (T9.setTop (mkF m 160 #[iv p1, iv p2, iv p3, iv p4, iv p5, iv p6, iv 0, iv 0, iv g2, iv g3, iv ((p6 &&& (15 : Int32)) - (8 : Int32)), rv b4, iv (p5 &&& (2147483647 : Int32)), .unset, .unset, .unset] [(.int 0)]))
          exact J16 _ _ X9 rfl N9
        show Goes p e below QQ (TJ2.setTop (mkF m 38 #[iv p1, iv p2, iv p3, iv p4, iv p5, iv p6, iv 0, iv 0, iv (if (p1 &&& (8 : Int32)) = (0 : Int32) then p3 else p2), .unset, .unset, .unset, .unset, .unset, .unset, .unset] [(.int (p1 &&& (16 : Int32)))]))
        by_cases hb24 : (p1 &&& (16 : Int32)) = (0 : Int32)
        · refine G1 (XS.ifYes XJ2.here hx rfl (pc0 := 38) (pc' := 45) rfl (hb hby at_38) rfl ((if0 _ _).trans (teq hb24).1) (by decide) (by decide)) ?_
          show Gs p e below QQ TJ2 m 45 #[iv p1, iv p2, iv p3, iv p4, iv p5, iv p6, iv 0, iv 0, iv (if (p1 &&& (8 : Int32)) = (0 : Int32) then p3 else p2), .unset, .unset, .unset, .unset, .unset, .unset, .unset] []
          refine G1 (XS.iloadN XJ2.here hx rfl (hb hby at_45) rfl) ?_
          refine G1 (XS.bipush XJ2.here hx rfl (hb hby at_46)) ?_
          show Gs p e below QQ TJ2 m 48 #[iv p1, iv p2, iv p3, iv p4, iv p5, iv p6, iv 0, iv 0, iv (if (p1 &&& (8 : Int32)) = (0 : Int32) then p3 else p2), .unset, .unset, .unset, .unset, .unset, .unset, .unset] [(.int 32), (.int p1)]
          refine G1 (XS.iand XJ2.here hx rfl (hb hby at_48) rfl) ?_
          show Goes p e below QQ (TJ2.setTop (mkF m 49 #[iv p1, iv p2, iv p3, iv p4, iv p5, iv p6, iv 0, iv 0, iv (if (p1 &&& (8 : Int32)) = (0 : Int32) then p3 else p2), .unset, .unset, .unset, .unset, .unset, .unset, .unset] [(.int (p1 &&& (32 : Int32)))]))
          by_cases hb25 : (p1 &&& (32 : Int32)) = (0 : Int32)
          · refine G1 (XS.ifYes XJ2.here hx rfl (pc0 := 49) (pc' := 57) rfl (hb hby at_49) rfl ((if0 _ _).trans (teq hb25).1) (by decide) (by decide)) ?_
            show Gs p e below QQ TJ2 m 57 #[iv p1, iv p2, iv p3, iv p4, iv p5, iv p6, iv 0, iv 0, iv (if (p1 &&& (8 : Int32)) = (0 : Int32) then p3 else p2), .unset, .unset, .unset, .unset, .unset, .unset, .unset] []
            refine G1 (XS.iloadN XJ2.here hx rfl (hb hby at_57) rfl) ?_
            show Goes p e below QQ (TJ2.setTop (mkF m 58 #[iv p1, iv p2, iv p3, iv p4, iv p5, iv p6, iv 0, iv 0, iv (if (p1 &&& (8 : Int32)) = (0 : Int32) then p3 else p2), .unset, .unset, .unset, .unset, .unset, .unset, .unset] [(.int p4)]))
            rw [(((if_pos hb24).trans ((if_pos hb25).trans rfl)) : (if (p1 &&& (16 : Int32)) = (0 : Int32) then (if (p1 &&& (32 : Int32)) = (0 : Int32) then p4 else (if (p1 &&& (8 : Int32)) = (0 : Int32) then p3 else p2)) else p2) = p4)] at J3
            exact J3 _ _ XJ2 eJ2 NJ2
          · refine G1 (XS.ifNo XJ2.here hx rfl (hb hby at_49) rfl ((if0 _ _).trans (feq hb25).1)) ?_
            show Gs p e below QQ TJ2 m 52 #[iv p1, iv p2, iv p3, iv p4, iv p5, iv p6, iv 0, iv 0, iv (if (p1 &&& (8 : Int32)) = (0 : Int32) then p3 else p2), .unset, .unset, .unset, .unset, .unset, .unset, .unset] []
            refine G1 (XS.iload XJ2.here hx rfl (hb hby at_52) rfl) ?_
            refine G1 (XS.goto XJ2.here hx rfl (pc0 := 54) (pc' := 58) rfl (hb hby at_54) (by decide) (by decide)) ?_
            show Goes p e below QQ (TJ2.setTop (mkF m 58 #[iv p1, iv p2, iv p3, iv p4, iv p5, iv p6, iv 0, iv 0, iv (if (p1 &&& (8 : Int32)) = (0 : Int32) then p3 else p2), .unset, .unset, .unset, .unset, .unset, .unset, .unset] [(.int (if (p1 &&& (8 : Int32)) = (0 : Int32) then p3 else p2))]))
            rw [(((if_pos hb24).trans ((if_neg hb25).trans rfl)) : (if (p1 &&& (16 : Int32)) = (0 : Int32) then (if (p1 &&& (32 : Int32)) = (0 : Int32) then p4 else (if (p1 &&& (8 : Int32)) = (0 : Int32) then p3 else p2)) else p2) = (if (p1 &&& (8 : Int32)) = (0 : Int32) then p3 else p2))] at J3
            exact J3 _ _ XJ2 eJ2 NJ2
        · refine G1 (XS.ifNo XJ2.here hx rfl (hb hby at_38) rfl ((if0 _ _).trans (feq hb24).1)) ?_
          show Gs p e below QQ TJ2 m 41 #[iv p1, iv p2, iv p3, iv p4, iv p5, iv p6, iv 0, iv 0, iv (if (p1 &&& (8 : Int32)) = (0 : Int32) then p3 else p2), .unset, .unset, .unset, .unset, .unset, .unset, .unset] []
          refine G1 (XS.iloadN XJ2.here hx rfl (hb hby at_41) rfl) ?_
          refine G1 (XS.goto XJ2.here hx rfl (pc0 := 42) (pc' := 58) rfl (hb hby at_42) (by decide) (by decide)) ?_
          show Goes p e below QQ (TJ2.setTop (mkF m 58 #[iv p1, iv p2, iv p3, iv p4, iv p5, iv p6, iv 0, iv 0, iv (if (p1 &&& (8 : Int32)) = (0 : Int32) then p3 else p2), .unset, .unset, .unset, .unset, .unset, .unset, .unset] [(.int p2)]))
          rw [(((if_neg hb24).trans rfl) : (if (p1 &&& (16 : Int32)) = (0 : Int32) then (if (p1 &&& (32 : Int32)) = (0 : Int32) then p4 else (if (p1 &&& (8 : Int32)) = (0 : Int32) then p3 else p2)) else p2) = p2)] at J3
          exact J3 _ _ XJ2 eJ2 NJ2
      show Goes p e below QQ (s₁.setTop (mkF m 24 #[iv p1, iv p2, iv p3, iv p4, iv p5, iv p6, iv 0, iv 0, .unset, .unset, .unset, .unset, .unset, .unset, .unset, .unset] [(.int (p1 &&& (8 : Int32)))]))
      by_cases hb26 : (p1 &&& (8 : Int32)) = (0 : Int32)
      · refine G1 (XS.ifYes X0.here hx rfl (pc0 := 24) (pc' := 31) rfl (hb hby at_24) rfl ((if0 _ _).trans (teq hb26).1) (by decide) (by decide)) ?_
        show Gs p e below QQ s₁ m 31 #[iv p1, iv p2, iv p3, iv p4, iv p5, iv p6, iv 0, iv 0, .unset, .unset, .unset, .unset, .unset, .unset, .unset, .unset] []
        refine G1 (XS.iloadN X0.here hx rfl (hb hby at_31) rfl) ?_
        show Goes p e below QQ (s₁.setTop (mkF m 32 #[iv p1, iv p2, iv p3, iv p4, iv p5, iv p6, iv 0, iv 0, .unset, .unset, .unset, .unset, .unset, .unset, .unset, .unset] [(.int p3)]))
        rw [(((if_pos hb26).trans rfl) : (if (p1 &&& (8 : Int32)) = (0 : Int32) then p3 else p2) = p3)] at J2
        exact J2 _ _ X0 e0 N0
      · refine G1 (XS.ifNo X0.here hx rfl (hb hby at_24) rfl ((if0 _ _).trans (feq hb26).1)) ?_
        show Gs p e below QQ s₁ m 27 #[iv p1, iv p2, iv p3, iv p4, iv p5, iv p6, iv 0, iv 0, .unset, .unset, .unset, .unset, .unset, .unset, .unset, .unset] []
        refine G1 (XS.iloadN X0.here hx rfl (hb hby at_27) rfl) ?_
        refine G1 (XS.goto X0.here hx rfl (pc0 := 28) (pc' := 32) rfl (hb hby at_28) (by decide) (by decide)) ?_
        show Goes p e below QQ (s₁.setTop (mkF m 32 #[iv p1, iv p2, iv p3, iv p4, iv p5, iv p6, iv 0, iv 0, .unset, .unset, .unset, .unset, .unset, .unset, .unset, .unset] [(.int p2)]))
        rw [(((if_neg hb26).trans rfl) : (if (p1 &&& (8 : Int32)) = (0 : Int32) then p3 else p2) = p2)] at J2
        exact J2 _ _ X0 e0 N0
    · rw [hk]
      show Goes p e below QQ (s₁.setTop (mkF m 20 #[iv p1, iv p2, iv p3, iv p4, iv p5, iv p6, iv 0, iv 1, .unset, .unset, .unset, .unset, .unset, .unset, .unset, .unset] []))
      refine G1 (XS.iloadN X0.here hx rfl (hb hby at_20) rfl) ?_
      refine G1 (XS.bipush X0.here hx rfl (hb hby at_21)) ?_
      show Gs p e below QQ s₁ m 23 #[iv p1, iv p2, iv p3, iv p4, iv p5, iv p6, iv 0, iv 1, .unset, .unset, .unset, .unset, .unset, .unset, .unset, .unset] [(.int 8), (.int p1)]
      refine G1 (XS.iand X0.here hx rfl (hb hby at_23) rfl) ?_
      show Goes p e below QQ (s₁.setTop (mkF m 24 #[iv p1, iv p2, iv p3, iv p4, iv p5, iv p6, iv 0, iv 1, .unset, .unset, .unset, .unset, .unset, .unset, .unset, .unset] [(.int (p1 &&& (8 : Int32)))]))
      have J27 : ∀ (TJ27 : State) (lJ27 : List Loc), Stand p l e room_1 s m #[(.int p1), (.int p2), (.int p3), (.int p4), (.int p5), (.int p6)] below meth c TJ27 lJ27 0 0 → TJ27.heap = h0 → Fr n0 lJ27 → Goes p e below QQ (TJ27.setTop (mkF m 32 #[iv p1, iv p2, iv p3, iv p4, iv p5, iv p6, iv 0, iv 1, .unset, .unset, .unset, .unset, .unset, .unset, .unset, .unset] [(.int (if (p1 &&& (8 : Int32)) = (0 : Int32) then p3 else p2))])) := by
        intro TJ27 lJ27 XJ27 eJ27 NJ27
        refine G1 (XS.istore XJ27.here hx rfl (hb hby at_32) rfl (l' := #[iv p1, iv p2, iv p3, iv p4, iv p5, iv p6, iv 0, iv 1, iv (if (p1 &&& (8 : Int32)) = (0 : Int32) then p3 else p2), .unset, .unset, .unset, .unset, .unset, .unset, .unset]) rfl) ?_
        refine G1 (XS.iloadN XJ27.here hx rfl (hb hby at_34) rfl) ?_
        refine G1 (XS.bipush XJ27.here hx rfl (hb hby at_35)) ?_
        show Gs p e below QQ TJ27 m 37 #[iv p1, iv p2, iv p3, iv p4, iv p5, iv p6, iv 0, iv 1, iv (if (p1 &&& (8 : Int32)) = (0 : Int32) then p3 else p2), .unset, .unset, .unset, .unset, .unset, .unset, .unset] [(.int 16), (.int p1)]
        refine G1 (XS.iand XJ27.here hx rfl (hb hby at_37) rfl) ?_
        show Goes p e below QQ (TJ27.setTop (mkF m 38 #[iv p1, iv p2, iv p3, iv p4, iv p5, iv p6, iv 0, iv 1, iv (if (p1 &&& (8 : Int32)) = (0 : Int32) then p3 else p2), .unset, .unset, .unset, .unset, .unset, .unset, .unset] [(.int (p1 &&& (16 : Int32)))]))
        have J28 : ∀ (TJ28 : State) (lJ28 : List Loc), Stand p l e room_1 s m #[(.int p1), (.int p2), (.int p3), (.int p4), (.int p5), (.int p6)] below meth c TJ28 lJ28 0 0 → TJ28.heap = h0 → Fr n0 lJ28 → Goes p e below QQ (TJ28.setTop (mkF m 58 #[iv p1, iv p2, iv p3, iv p4, iv p5, iv p6, iv 0, iv 1, iv (if (p1 &&& (8 : Int32)) = (0 : Int32) then p3 else p2), .unset, .unset, .unset, .unset, .unset, .unset, .unset] [(.int (if (p1 &&& (16 : Int32)) = (0 : Int32) then (if (p1 &&& (32 : Int32)) = (0 : Int32) then p4 else (if (p1 &&& (8 : Int32)) = (0 : Int32) then p3 else p2)) else p2))])) := by
          intro TJ28 lJ28 XJ28 eJ28 NJ28
          refine G1 (XS.istore XJ28.here hx rfl (hb hby at_58) rfl (l' := #[iv p1, iv p2, iv p3, iv p4, iv p5, iv p6, iv 0, iv 1, iv (if (p1 &&& (8 : Int32)) = (0 : Int32) then p3 else p2), iv (if (p1 &&& (16 : Int32)) = (0 : Int32) then (if (p1 &&& (32 : Int32)) = (0 : Int32) then p4 else (if (p1 &&& (8 : Int32)) = (0 : Int32) then p3 else p2)) else p2), .unset, .unset, .unset, .unset, .unset, .unset]) rfl) ?_
          show Goes p e below QQ (TJ28.setTop (mkF m 60 #[iv p1, iv p2, iv p3, iv p4, iv p5, iv p6, iv 0, iv 1, iv (if (p1 &&& (8 : Int32)) = (0 : Int32) then p3 else p2), iv (if (p1 &&& (16 : Int32)) = (0 : Int32) then (if (p1 &&& (32 : Int32)) = (0 : Int32) then p4 else (if (p1 &&& (8 : Int32)) = (0 : Int32) then p3 else p2)) else p2), .unset, .unset, .unset, .unset, .unset, .unset] []))
          generalize (if (p1 &&& (16 : Int32)) = (0 : Int32) then (if (p1 &&& (32 : Int32)) = (0 : Int32) then p4 else (if (p1 &&& (8 : Int32)) = (0 : Int32) then p3 else p2)) else p2) = g3
          generalize (if (p1 &&& (8 : Int32)) = (0 : Int32) then p3 else p2) = g2
          show Goes p e below QQ (TJ28.setTop (mkF m 60 #[iv p1, iv p2, iv p3, iv p4, iv p5, iv p6, iv 0, iv 1, iv g2, iv g3, .unset, .unset, .unset, .unset, .unset, .unset] []))
          refine G1 (XS.iload XJ28.here hx rfl (hb hby at_60) rfl) ?_
          show Gs p e below QQ TJ28 m 62 #[iv p1, iv p2, iv p3, iv p4, iv p5, iv p6, iv 0, iv 1, iv g2, iv g3, .unset, .unset, .unset, .unset, .unset, .unset] [(.int 0)]
          refine G1 (XS.ifYes XJ28.here hx rfl (pc0 := 62) (pc' := 76) rfl (hb hby at_62) rfl ((if0 _ _).trans (teq (by decide)).1) (by decide) (by decide)) ?_
          show Gs p e below QQ TJ28 m 76 #[iv p1, iv p2, iv p3, iv p4, iv p5, iv p6, iv 0, iv 1, iv g2, iv g3, .unset, .unset, .unset, .unset, .unset, .unset] []
          refine G1 (XS.iload XJ28.here hx rfl (hb hby at_76) rfl) ?_
          refine G1 (XS.bipush XJ28.here hx rfl (hb hby at_78)) ?_
          show Gs p e below QQ TJ28 m 80 #[iv p1, iv p2, iv p3, iv p4, iv p5, iv p6, iv 0, iv 1, iv g2, iv g3, .unset, .unset, .unset, .unset, .unset, .unset] [(.int 15), (.int p6)]
          refine G1 (XS.iand XJ28.here hx rfl (hb hby at_80) rfl) ?_
          show Gs p e below QQ TJ28 m 81 #[iv p1, iv p2, iv p3, iv p4, iv p5, iv p6, iv 0, iv 1, iv g2, iv g3, .unset, .unset, .unset, .unset, .unset, .unset] [(.int (p6 &&& (15 : Int32)))]
          refine G1 (XS.bipush XJ28.here hx rfl (hb hby at_81)) ?_
          show Gs p e below QQ TJ28 m 83 #[iv p1, iv p2, iv p3, iv p4, iv p5, iv p6, iv 0, iv 1, iv g2, iv g3, .unset, .unset, .unset, .unset, .unset, .unset] [(.int 8), (.int (p6 &&& (15 : Int32)))]
          refine G1 (XS.isub XJ28.here hx rfl (hb hby at_83) rfl) ?_
          show Gs p e below QQ TJ28 m 84 #[iv p1, iv p2, iv p3, iv p4, iv p5, iv p6, iv 0, iv 1, iv g2, iv g3, .unset, .unset, .unset, .unset, .unset, .unset] [(.int ((p6 &&& (15 : Int32)) - (8 : Int32)))]
          refine G1 (XS.istore XJ28.here hx rfl (hb hby at_84) rfl (l' := #[iv p1, iv p2, iv p3, iv p4, iv p5, iv p6, iv 0, iv 1, iv g2, iv g3, iv ((p6 &&& (15 : Int32)) - (8 : Int32)), .unset, .unset, .unset, .unset, .unset]) rfl) ?_
          show Goes p e below QQ (TJ28.setTop (mkF m 86 #[iv p1, iv p2, iv p3, iv p4, iv p5, iv p6, iv 0, iv 1, iv g2, iv g3, iv ((p6 &&& (15 : Int32)) - (8 : Int32)), .unset, .unset, .unset, .unset, .unset] []))
          obtain ⟨T29, h29, X29, e29, E29, A29, D29, -, st29⟩ := newO XJ28 hx hZ hown (wI hw 0 rfl) (wI hw 1 rfl) (wI hw 2 rfl) eJ28 (g := (mkF m 86 #[iv p1, iv p2, iv p3, iv p4, iv p5, iv p6, iv 0, iv 1, iv g2, iv g3, iv ((p6 &&& (15 : Int32)) - (8 : Int32)), .unset, .unset, .unset, .unset, .unset] [])) rfl (hb hby at_86) (by decide) (by decide)
          obtain ⟨b29, g29⟩ : ∃ z, z = h0.size := ⟨_, rfl⟩
          rw [← g29] at A29 D29 st29
          have sz_b29 : h0.size ≤ b29 := Nat.le_trans K0.1 (Nat.le_of_eq g29.symm)
          have g_b29 : n0 ≤ b29 := Nat.le_trans Z0 sz_b29
          have K29 := K0.ext E29
          have X29 : Stand p l e room_1 s m #[(.int p1), (.int p2), (.int p3), (.int p4), (.int p5), (.int p6)] below meth c T29 _ 1 4 := X29
          have F_30 : Fld Z h29 b29 "com/example/bindery/bindery/PartIndex" "hashes" "[I" .null := D29 (Or.inl (wI hw 22 rfl)) (ty := (.array .int)) (by decide)
          have F_31 : Fld Z h29 b29 "com/example/bindery/bindery/PartIndex" "slots" "[I" .null := D29 (Or.inl (wI hw 30 rfl)) (ty := (.array .int)) (by decide)
          have F_32 : Fld Z h29 b29 "com/example/bindery/bindery/PartIndex" "size" "I" (.int 0) := D29 (Or.inl (wI hw 32 rfl)) (ty := .int) (by decide)
          have F_33 : Fld Z h29 b29 "com/example/bindery/bindery/PartIndex" "shift" "I" (.int 0) := D29 (Or.inl (wI hw 61 rfl)) (ty := .int) (by decide)
          refine Goes.on (fun t k => st29 t k) ?_
          show Goes p e below QQ (T29.setTop (mkF m 89 #[iv p1, iv p2, iv p3, iv p4, iv p5, iv p6, iv 0, iv 1, iv g2, iv g3, iv ((p6 &&& (15 : Int32)) - (8 : Int32)), .unset, .unset, .unset, .unset, .unset] [(.ref b29)]))
          refine G1 (XS.dup X29.here hx rfl (hb hby at_89) rfl rfl) ?_
          refine G1 (XS.iload X29.here hx rfl (hb hby at_90) rfl) ?_
          show Goes p e below QQ (T29.setTop (mkF m 92 #[iv p1, iv p2, iv p3, iv p4, iv p5, iv p6, iv 0, iv 1, iv g2, iv g3, iv ((p6 &&& (15 : Int32)) - (8 : Int32)), .unset, .unset, .unset, .unset, .unset] [(.int ((p6 &&& (15 : Int32)) - (8 : Int32))), (.ref b29), (.ref b29)]))
          obtain ⟨nn, hr, hn⟩ := own_room0 p6
          obtain ⟨_, _, ⟨T34, L34, k34, n34⟩, -, X34, ⟨Lc34, hQ34, l34, y34, z34⟩, st34⟩ := X29.specialBack hx (y := (⟨"com/example/bindery/bindery/PartIndex", "<init>", "(I)V"⟩ : MethodName)) rfl hown (mvT hZ (wI hw 3 rfl)) (mvT hZ (wI hw 4 rfl)) (mvT hZ (wI hw 5 rfl)) (by decide) (backOf (W := 1) (rmIn0 l Z a0 hw [] b29 ((p6 &&& (15 : Int32)) - (8 : Int32)) nn h29 n0 (Nat.le_trans Z0 K29.1) A29 F_30 F_31 F_33 F_32 g_b29 hr hn) hZ (wI hw 5 rfl) (wI hw 2 rfl) (by decide) (by decide)) (g := (mkF m 92 #[iv p1, iv p2, iv p3, iv p4, iv p5, iv p6, iv 0, iv 1, iv g2, iv g3, iv ((p6 &&& (15 : Int32)) - (8 : Int32)), .unset, .unset, .unset, .unset, .unset] [(.int ((p6 &&& (15 : Int32)) - (8 : Int32))), (.ref b29), (.ref b29)])) rfl (by rw [hml]; rfl) (Steps.refl _) (a := b29) (argsL := [(.int ((p6 &&& (15 : Int32)) - (8 : Int32)))]) (rest := [(.ref b29)]) (lenOf pd_2 rfl) rfl (by show 2 * 0 + _ ≤ _; exact Nat.le_of_eq rfl) (hb hby at_92) (fun _ _ => ⟨rfl, e29, (by decide : 1 + 1 ≤ _), (by decide : 4 + 16 ≤ _)⟩)
          dsimp only [Pt.U, Pt.locs, Pt.cells, Pt.slots] at X34 l34 y34 z34 st34 hQ34
          have l34 := l34.symm; have y34 := y34.symm; have z34 := z34.symm; subst l34 y34 z34
          have X34 : Stand p l e room_1 s m #[(.int p1), (.int p2), (.int p3), (.int p4), (.int p5), (.int p6)] below meth c T34 _ 2 20 := X34
          obtain ⟨bh0, kh0, rfl, M34, Kc, szh, ⟨hashes_c, slots_c, shift_c, size_c⟩, Vh0⟩ := hQ34
          have sz_bh0 : h0.size ≤ bh0 := Nat.le_trans K29.1 szh
          have g_bh0 : n0 ≤ bh0 := Nat.le_trans Z0 sz_bh0
          have ne_b29_bh0 : b29 ≠ bh0 := Nat.ne_of_lt (Nat.lt_of_lt_of_le A29.lt szh)
          have N34 := Fr.app NJ28 M34
          refine Goes.on (fun t k => st34.trans k) ?_
          have A29_35 := A29.keep Kc
          have K40 := K29.trans Kc (allS (Or.inr sz_b29) all0)
          show Goes p e below QQ (T34.setTop (mkF m 95 #[iv p1, iv p2, iv p3, iv p4, iv p5, iv p6, iv 0, iv 1, iv g2, iv g3, iv ((p6 &&& (15 : Int32)) - (8 : Int32)), .unset, .unset, .unset, .unset, .unset] [(.ref b29)]))
          refine G1 (XS.astore X34.here hx rfl (hb hby at_95) rfl rfl (l' := #[iv p1, iv p2, iv p3, iv p4, iv p5, iv p6, iv 0, iv 1, iv g2, iv g3, iv ((p6 &&& (15 : Int32)) - (8 : Int32)), rv b29, .unset, .unset, .unset, .unset]) rfl) ?_
          refine G1 (XS.iload X34.here hx rfl (hb hby at_97) rfl) ?_
          refine G1 (XS.iconst X34.here hx rfl (hb hby at_99)) ?_
          show Gs p e below QQ T34 m 100 #[iv p1, iv p2, iv p3, iv p4, iv p5, iv p6, iv 0, iv 1, iv g2, iv g3, iv ((p6 &&& (15 : Int32)) - (8 : Int32)), rv b29, .unset, .unset, .unset, .unset] [(.int 1), (.int 1)]
          refine G1 (XS.icmpNo X34.here hx rfl (hb hby at_100) rfl (flt (by decide)).1) ?_
          show Gs p e below QQ T34 m 103 #[iv p1, iv p2, iv p3, iv p4, iv p5, iv p6, iv 0, iv 1, iv g2, iv g3, iv ((p6 &&& (15 : Int32)) - (8 : Int32)), rv b29, .unset, .unset, .unset, .unset] []
          refine G1 (XS.aload X34.here hx rfl (hb hby at_103) rfl rfl) ?_
          refine G1 (XS.iloadN X34.here hx rfl (hb hby at_105) rfl) ?_
          show Goes p e below QQ (T34.setTop (mkF m 106 #[iv p1, iv p2, iv p3, iv p4, iv p5, iv p6, iv 0, iv 1, iv g2, iv g3, iv ((p6 &&& (15 : Int32)) - (8 : Int32)), rv b29, .unset, .unset, .unset, .unset] [(.int p2), (.ref b29)]))
          obtain ⟨cq41, kq41, q41a, q41b, q41c⟩ := isOf hZ rfl A29_35
          obtain ⟨_, _, ⟨T41, L41, k41, n41⟩, -, X41, ⟨Lc41, hQ41, l41, y41, z41⟩, st41⟩ := X34.virtualBack hx (y := (⟨"com/example/bindery/bindery/PartIndex", "add", "(I)V"⟩ : MethodName)) (z := (⟨"com/example/bindery/bindery/PartIndex", "add", "(I)V"⟩ : MethodName)) hown (mvT hZ (wI hw 37 rfl)) (mvT hZ (wI hw 38 rfl)) (notFace_of_selects (args := #[]) (mvT hZ (wI hw 40 rfl))) (mvT hZ (wI hw 40 rfl)) (mvT hZ (wI hw 39 rfl)) (by decide) (backOf (W := 0) (rmA0_0 l Z a0 hw [] b29 bh0 p2 kh0 nn (0 : Int32) (0 : Int32) (0 : Int32) (0 : Int32) T34.heap n0 (Nat.le_trans Z0 K40.1) A29_35 hashes_c slots_c shift_c size_c Vh0 g_b29 g_bh0 ne_b29_bh0 (own_ge0 nn hn)) hZ (wI hw 41 rfl) (wI hw 2 rfl) (by decide) (by decide)) q41a q41c (g := (mkF m 106 #[iv p1, iv p2, iv p3, iv p4, iv p5, iv p6, iv 0, iv 1, iv g2, iv g3, iv ((p6 &&& (15 : Int32)) - (8 : Int32)), rv b29, .unset, .unset, .unset, .unset] [(.int p2), (.ref b29)])) rfl (by rw [hml]; rfl) (Steps.refl _) (argsL := [(.int p2)]) (rest := []) (lenOf pd_2 rfl) rfl (by show 2 * 0 + _ ≤ _; exact Nat.le_of_eq rfl) (hb hby at_106) (fun _ _ => ⟨rfl, rfl, (by decide : 2 + 1 ≤ _), (by decide : 20 + 4 ≤ _)⟩)
          dsimp only [Pt.U, Pt.locs, Pt.cells, Pt.slots] at X41 l41 y41 z41 st41 hQ41
          have l41 := l41.symm; have y41 := y41.symm; have z41 := z41.symm; subst l41 y41 z41
          have X41 : Stand p l e room_1 s m #[(.int p1), (.int p2), (.int p3), (.int p4), (.int p5), (.int p6)] below meth c T41 _ 3 24 := X41
          obtain ⟨bh1, kh1, nn1, y0a0, y1a0, y2a0, rfl, M41, Kca0, g_bh1, od1, nea0, hNa0, ⟨hashes_a0, slots_a0, shift_a0, size_a0⟩, Vha0⟩ := hQ41
          have N41 := Fr.app N34 M41
          refine Goes.on (fun t k => st41.trans k) ?_
          have A29_42 := A29_35.keep Kca0
          have K48 := K40.trans Kca0 (allS (Or.inr sz_b29) (allS (Or.inr sz_bh0) all0))
          show Goes p e below QQ (T41.setTop (mkF m 109 #[iv p1, iv p2, iv p3, iv p4, iv p5, iv p6, iv 0, iv 1, iv g2, iv g3, iv ((p6 &&& (15 : Int32)) - (8 : Int32)), rv b29, .unset, .unset, .unset, .unset] []))
          have sz_bh1 : h0.size ≤ bh1 := od1.elim (fun z => Nat.le_trans sz_bh0 (Nat.le_of_eq z.symm)) (fun z => Nat.le_trans K40.1 z)
          refine G1 (XS.iload X41.here hx rfl (hb hby at_109) rfl) ?_
          refine G1 (XS.iconst X41.here hx rfl (hb hby at_111)) ?_
          show Gs p e below QQ T41 m 112 #[iv p1, iv p2, iv p3, iv p4, iv p5, iv p6, iv 0, iv 1, iv g2, iv g3, iv ((p6 &&& (15 : Int32)) - (8 : Int32)), rv b29, .unset, .unset, .unset, .unset] [(.int 2), (.int 1)]
          refine G1 (XS.icmpYes X41.here hx rfl (pc0 := 112) (pc' := 122) rfl (hb hby at_112) rfl (tlt (by decide)).1 (by decide) (by decide)) ?_
          show Gs p e below QQ T41 m 122 #[iv p1, iv p2, iv p3, iv p4, iv p5, iv p6, iv 0, iv 1, iv g2, iv g3, iv ((p6 &&& (15 : Int32)) - (8 : Int32)), rv b29, .unset, .unset, .unset, .unset] []
          refine G1 (XS.iload X41.here hx rfl (hb hby at_122) rfl) ?_
          refine G1 (XS.iconst X41.here hx rfl (hb hby at_124)) ?_
          show Gs p e below QQ T41 m 125 #[iv p1, iv p2, iv p3, iv p4, iv p5, iv p6, iv 0, iv 1, iv g2, iv g3, iv ((p6 &&& (15 : Int32)) - (8 : Int32)), rv b29, .unset, .unset, .unset, .unset] [(.int 3), (.int 1)]
          refine G1 (XS.icmpYes X41.here hx rfl (pc0 := 125) (pc' := 135) rfl (hb hby at_125) rfl (tlt (by decide)).1 (by decide) (by decide)) ?_
          show Gs p e below QQ T41 m 135 #[iv p1, iv p2, iv p3, iv p4, iv p5, iv p6, iv 0, iv 1, iv g2, iv g3, iv ((p6 &&& (15 : Int32)) - (8 : Int32)), rv b29, .unset, .unset, .unset, .unset] []
          refine G1 (XS.iload X41.here hx rfl (hb hby at_135) rfl) ?_
          show Gs p e below QQ T41 m 137 #[iv p1, iv p2, iv p3, iv p4, iv p5, iv p6, iv 0, iv 1, iv g2, iv g3, iv ((p6 &&& (15 : Int32)) - (8 : Int32)), rv b29, .unset, .unset, .unset, .unset] [(.int 0)]
          refine G1 (XS.ifNo X41.here hx rfl (hb hby at_137) rfl ((if0 _ _).trans (teq (by decide)).2)) ?_
          show Gs p e below QQ T41 m 140 #[iv p1, iv p2, iv p3, iv p4, iv p5, iv p6, iv 0, iv 1, iv g2, iv g3, iv ((p6 &&& (15 : Int32)) - (8 : Int32)), rv b29, .unset, .unset, .unset, .unset] []
          refine G1 (XS.iload X41.here hx rfl (hb hby at_140) rfl) ?_
          show Goes p e below QQ (T41.setTop (mkF m 142 #[iv p1, iv p2, iv p3, iv p4, iv p5, iv p6, iv 0, iv 1, iv g2, iv g3, iv ((p6 &&& (15 : Int32)) - (8 : Int32)), rv b29, .unset, .unset, .unset, .unset] [(.int p5)]))
          refine Goes.on (fun t k => X41.ldcInt hx hown (mvT hZ (wI hw 23 rfl)) (g := (mkF m 142 #[iv p1, iv p2, iv p3, iv p4, iv p5, iv p6, iv 0, iv 1, iv g2, iv g3, iv ((p6 &&& (15 : Int32)) - (8 : Int32)), rv b29, .unset, .unset, .unset, .unset] [(.int p5)])) rfl (hb hby at_142) t k) ?_
          show Goes p e below QQ (T41.setTop (mkF m 144 #[iv p1, iv p2, iv p3, iv p4, iv p5, iv p6, iv 0, iv 1, iv g2, iv g3, iv ((p6 &&& (15 : Int32)) - (8 : Int32)), rv b29, .unset, .unset, .unset, .unset] [(.int 2147483647), (.int p5)]))
          refine G1 (XS.iand X41.here hx rfl (hb hby at_144) rfl) ?_
          show Gs p e below QQ T41 m 145 #[iv p1, iv p2, iv p3, iv p4, iv p5, iv p6, iv 0, iv 1, iv g2, iv g3, iv ((p6 &&& (15 : Int32)) - (8 : Int32)), rv b29, .unset, .unset, .unset, .unset] [(.int (p5 &&& (2147483647 : Int32)))]
          refine G1 (XS.istore X41.here hx rfl (hb hby at_145) rfl (l' := #[iv p1, iv p2, iv p3, iv p4, iv p5, iv p6, iv 0, iv 1, iv g2, iv g3, iv ((p6 &&& (15 : Int32)) - (8 : Int32)), rv b29, iv (p5 &&& (2147483647 : Int32)), .unset, .unset, .unset]) rfl) ?_
          refine G1 (XS.iload X41.here hx rfl (hb hby at_147) rfl) ?_
          show Goes p e below QQ (T41.setTop (mkF m 149 #[iv p1, iv p2, iv p3, iv p4, iv p5, iv p6, iv 0, iv 1, iv g2, iv g3, iv ((p6 &&& (15 : Int32)) - (8 : Int32)), rv b29, iv (p5 &&& (2147483647 : Int32)), .unset, .unset, .unset] [(.int 1)]))
          have J49 : ∀ (TJ49 : State) (lJ49 : List Loc), Stand p l e room_1 s m #[(.int p1), (.int p2), (.int p3), (.int p4), (.int p5), (.int p6)] below meth c TJ49 lJ49 3 24 → TJ49.heap = T41.heap → Fr n0 lJ49 → Goes p e below QQ (TJ49.setTop (mkF m 160 #[iv p1, iv p2, iv p3, iv p4, iv p5, iv p6, iv 0, iv 1, iv g2, iv g3, iv ((p6 &&& (15 : Int32)) - (8 : Int32)), rv b29, iv (p5 &&& (2147483647 : Int32)), .unset, .unset, .unset] [(.int 0)])) := by
            intro TJ49 lJ49 XJ49 eJ49 NJ49
            refine G1 (XS.istore XJ49.here hx rfl (hb hby at_160) rfl (l' := #[iv p1, iv p2, iv p3, iv p4, iv p5, iv p6, iv 0, iv 1, iv g2, iv g3, iv ((p6 &&& (15 : Int32)) - (8 : Int32)), rv b29, iv (p5 &&& (2147483647 : Int32)), iv 0, .unset, .unset]) rfl) ?_
            refine G1 (XS.aload XJ49.here hx rfl (hb hby at_162) rfl rfl) ?_
            refine G1 (XS.iload XJ49.here hx rfl (hb hby at_164) rfl) ?_
            show Goes p e below QQ (TJ49.setTop (mkF m 166 #[iv p1, iv p2, iv p3, iv p4, iv p5, iv p6, iv 0, iv 1, iv g2, iv g3, iv ((p6 &&& (15 : Int32)) - (8 : Int32)), rv b29, iv (p5 &&& (2147483647 : Int32)), iv 0, .unset, .unset] [(.int (p5 &&& (2147483647 : Int32))), (.ref b29)]))
            obtain ⟨cq50, kq50, q50a, q50b, q50c⟩ := isOf hZ eJ49 A29_42
            obtain ⟨_, _, ⟨T50, L50, k50, n50⟩, -, X50, ⟨Lc50, hQ50, l50, y50, z50⟩, st50⟩ := XJ49.virtualBack hx (y := (⟨"com/example/bindery/bindery/PartIndex", "entryAt", "(I)I"⟩ : MethodName)) (z := (⟨"com/example/bindery/bindery/PartIndex", "entryAt", "(I)I"⟩ : MethodName)) hown (mvT hZ (wI hw 24 rfl)) (mvT hZ (wI hw 25 rfl)) (notFace_of_selects (args := #[]) (mvT hZ (wI hw 27 rfl))) (mvT hZ (wI hw 27 rfl)) (mvT hZ (wI hw 26 rfl)) (by decide) (backOf (W := 0) (rmE0 l Z a0 hw [] b29 (p5 &&& (2147483647 : Int32)) (1 : Int32) T41.heap n0 (Nat.le_trans Z0 K48.1) slots_a0 size_a0) hZ (wI hw 28 rfl) (wI hw 2 rfl) (by decide) (by decide)) q50a q50c (g := (mkF m 166 #[iv p1, iv p2, iv p3, iv p4, iv p5, iv p6, iv 0, iv 1, iv g2, iv g3, iv ((p6 &&& (15 : Int32)) - (8 : Int32)), rv b29, iv (p5 &&& (2147483647 : Int32)), iv 0, .unset, .unset] [(.int (p5 &&& (2147483647 : Int32))), (.ref b29)])) rfl (by rw [hml]; rfl) (Steps.refl _) (argsL := [(.int (p5 &&& (2147483647 : Int32)))]) (rest := []) (lenOf pd_1 rfl) rfl (by show 2 * 0 + _ ≤ _; exact Nat.le_of_eq rfl) (hb hby at_166) (fun _ _ => ⟨rfl, eJ49, (by decide : 3 + 0 ≤ _), (by decide : 24 + 0 ≤ _)⟩)
            dsimp only [Pt.U, Pt.locs, Pt.cells, Pt.slots] at X50 l50 y50 z50 st50 hQ50
            have l50 := l50.symm; have y50 := y50.symm; have z50 := z50.symm; subst l50 y50 z50
            have X50 : Stand p l e room_1 s m #[(.int p1), (.int p2), (.int p3), (.int p4), (.int p5), (.int p6)] below meth c T50 _ 3 24 := X50
            obtain ⟨rfl, M50, e50⟩ := hQ50
            have N50 := Fr.app NJ49 M50
            refine Goes.on (fun t k => st50.trans k) ?_
            show Goes p e below QQ (T50.setTop (mkF m 169 #[iv p1, iv p2, iv p3, iv p4, iv p5, iv p6, iv 0, iv 1, iv g2, iv g3, iv ((p6 &&& (15 : Int32)) - (8 : Int32)), rv b29, iv (p5 &&& (2147483647 : Int32)), iv 0, .unset, .unset] [(.int (entF (p5 &&& (2147483647 : Int32)) (1 : Int32)))]))
            refine G1 (XS.iload X50.here hx rfl (hb hby at_169) rfl) ?_
            refine G1 (XS.iload X50.here hx rfl (hb hby at_171) rfl) ?_
            show Goes p e below QQ (T50.setTop (mkF m 173 #[iv p1, iv p2, iv p3, iv p4, iv p5, iv p6, iv 0, iv 1, iv g2, iv g3, iv ((p6 &&& (15 : Int32)) - (8 : Int32)), rv b29, iv (p5 &&& (2147483647 : Int32)), iv 0, .unset, .unset] [(.int 1), (.int (p5 &&& (2147483647 : Int32))), (.int (entF (p5 &&& (2147483647 : Int32)) (1 : Int32)))]))
            obtain ⟨_, _, ⟨T51, L51, k51, n51⟩, -, X51, ⟨Lc51, hQ51, l51, y51, z51⟩, st51⟩ := Jvm.LawKit.callS X50 hx (y := (⟨"com/example/bindery/bindery/PartIndexEntryAtPinLaw", "few", "(II)I"⟩ : MethodName)) hown (mvT hZ (wI hw 33 rfl)) (mvT hZ (wI hw 34 rfl)) (mvT hZ (wI hw 35 rfl)) (mvT hZ (wI hw 36 rfl)) (by decide) (backOf (W := 1) (rmFe l Z a0 hw [] (p5 &&& (2147483647 : Int32)) (1 : Int32) T41.heap n0 (Nat.le_trans Z0 K48.1) ) hZ (wI hw 36 rfl) (wI hw 35 rfl) (by decide) (by decide)) (g := (mkF m 173 #[iv p1, iv p2, iv p3, iv p4, iv p5, iv p6, iv 0, iv 1, iv g2, iv g3, iv ((p6 &&& (15 : Int32)) - (8 : Int32)), rv b29, iv (p5 &&& (2147483647 : Int32)), iv 0, .unset, .unset] [(.int 1), (.int (p5 &&& (2147483647 : Int32))), (.int (entF (p5 &&& (2147483647 : Int32)) (1 : Int32)))])) rfl (by rw [hml]; rfl) (argsL := [(.int (p5 &&& (2147483647 : Int32))), (.int 1)]) (rest := [(.int (entF (p5 &&& (2147483647 : Int32)) (1 : Int32)))]) (lenOf pd_0 rfl) rfl (by show 2 * 0 + _ ≤ _; exact Nat.le_of_eq rfl) (hb hby at_173) (fun _ _ => ⟨rfl, e50, (by decide : 3 + 0 ≤ _), (by decide : 24 + 0 ≤ _)⟩)
            dsimp only [Pt.U, Pt.locs, Pt.cells, Pt.slots] at X51 l51 y51 z51 st51 hQ51
            have l51 := l51.symm; have y51 := y51.symm; have z51 := z51.symm; subst l51 y51 z51
            have X51 : Stand p l e room_1 s m #[(.int p1), (.int p2), (.int p3), (.int p4), (.int p5), (.int p6)] below meth c T51 _ 3 24 := X51
            obtain ⟨rfl, M51, e51⟩ := hQ51
            have N51 := Fr.app N50 M51
            refine Goes.on (fun t k => st51 _ k) ?_
            show Goes p e below QQ (T51.setTop (mkF m 176 #[iv p1, iv p2, iv p3, iv p4, iv p5, iv p6, iv 0, iv 1, iv g2, iv g3, iv ((p6 &&& (15 : Int32)) - (8 : Int32)), rv b29, iv (p5 &&& (2147483647 : Int32)), iv 0, .unset, .unset] [(.int (fewF (p5 &&& (2147483647 : Int32)) (1 : Int32))), (.int (entF (p5 &&& (2147483647 : Int32)) (1 : Int32)))]))
            refine G1 (XS.icmpNo X51.here hx rfl (hb hby at_176) rfl (teq rfl).2) ?_
            show Gs p e below QQ T51 m 179 #[iv p1, iv p2, iv p3, iv p4, iv p5, iv p6, iv 0, iv 1, iv g2, iv g3, iv ((p6 &&& (15 : Int32)) - (8 : Int32)), rv b29, iv (p5 &&& (2147483647 : Int32)), iv 0, .unset, .unset] []
            refine G1 (XS.aload X51.here hx rfl (hb hby at_179) rfl rfl) ?_
            refine G1 (XS.iconst X51.here hx rfl (hb hby at_181)) ?_
            show Goes p e below QQ (T51.setTop (mkF m 182 #[iv p1, iv p2, iv p3, iv p4, iv p5, iv p6, iv 0, iv 1, iv g2, iv g3, iv ((p6 &&& (15 : Int32)) - (8 : Int32)), rv b29, iv (p5 &&& (2147483647 : Int32)), iv 0, .unset, .unset] [(.int 0), (.ref b29)]))
            obtain ⟨cq52, kq52, q52a, q52b, q52c⟩ := isOf hZ e51 A29_42
            obtain ⟨_, _, ⟨T52, L52, k52, n52⟩, -, X52, ⟨Lc52, hQ52, l52, y52, z52⟩, st52⟩ := X51.virtualBack hx (y := (⟨"com/example/bindery/bindery/PartIndex", "entryAt", "(I)I"⟩ : MethodName)) (z := (⟨"com/example/bindery/bindery/PartIndex", "entryAt", "(I)I"⟩ : MethodName)) hown (mvT hZ (wI hw 24 rfl)) (mvT hZ (wI hw 25 rfl)) (notFace_of_selects (args := #[]) (mvT hZ (wI hw 27 rfl))) (mvT hZ (wI hw 27 rfl)) (mvT hZ (wI hw 26 rfl)) (by decide) (backOf (W := 0) (rmE0 l Z a0 hw [] b29 (0 : Int32) (1 : Int32) T41.heap n0 (Nat.le_trans Z0 K48.1) slots_a0 size_a0) hZ (wI hw 28 rfl) (wI hw 2 rfl) (by decide) (by decide)) q52a q52c (g := (mkF m 182 #[iv p1, iv p2, iv p3, iv p4, iv p5, iv p6, iv 0, iv 1, iv g2, iv g3, iv ((p6 &&& (15 : Int32)) - (8 : Int32)), rv b29, iv (p5 &&& (2147483647 : Int32)), iv 0, .unset, .unset] [(.int 0), (.ref b29)])) rfl (by rw [hml]; rfl) (Steps.refl _) (argsL := [(.int 0)]) (rest := []) (lenOf pd_1 rfl) rfl (by show 2 * 0 + _ ≤ _; exact Nat.le_of_eq rfl) (hb hby at_182) (fun _ _ => ⟨rfl, e51, (by decide : 3 + 0 ≤ _), (by decide : 24 + 0 ≤ _)⟩)
            dsimp only [Pt.U, Pt.locs, Pt.cells, Pt.slots] at X52 l52 y52 z52 st52 hQ52
            have l52 := l52.symm; have y52 := y52.symm; have z52 := z52.symm; subst l52 y52 z52
            have X52 : Stand p l e room_1 s m #[(.int p1), (.int p2), (.int p3), (.int p4), (.int p5), (.int p6)] below meth c T52 _ 3 24 := X52
            obtain ⟨rfl, M52, e52⟩ := hQ52
            have N52 := Fr.app N51 M52
            refine Goes.on (fun t k => st52.trans k) ?_
            show Goes p e below QQ (T52.setTop (mkF m 185 #[iv p1, iv p2, iv p3, iv p4, iv p5, iv p6, iv 0, iv 1, iv g2, iv g3, iv ((p6 &&& (15 : Int32)) - (8 : Int32)), rv b29, iv (p5 &&& (2147483647 : Int32)), iv 0, .unset, .unset] [(.int (entF (0 : Int32) (1 : Int32)))]))
            refine G1 (XS.iconst X52.here hx rfl (hb hby at_185)) ?_
            refine G1 (XS.iload X52.here hx rfl (hb hby at_186) rfl) ?_
            show Goes p e below QQ (T52.setTop (mkF m 188 #[iv p1, iv p2, iv p3, iv p4, iv p5, iv p6, iv 0, iv 1, iv g2, iv g3, iv ((p6 &&& (15 : Int32)) - (8 : Int32)), rv b29, iv (p5 &&& (2147483647 : Int32)), iv 0, .unset, .unset] [(.int 1), (.int 0), (.int (entF (0 : Int32) (1 : Int32)))]))
            obtain ⟨_, _, ⟨T53, L53, k53, n53⟩, -, X53, ⟨Lc53, hQ53, l53, y53, z53⟩, st53⟩ := Jvm.LawKit.callS X52 hx (y := (⟨"com/example/bindery/bindery/PartIndexEntryAtPinLaw", "few", "(II)I"⟩ : MethodName)) hown (mvT hZ (wI hw 33 rfl)) (mvT hZ (wI hw 34 rfl)) (mvT hZ (wI hw 35 rfl)) (mvT hZ (wI hw 36 rfl)) (by decide) (backOf (W := 1) (rmFe l Z a0 hw [] (0 : Int32) (1 : Int32) T41.heap n0 (Nat.le_trans Z0 K48.1) ) hZ (wI hw 36 rfl) (wI hw 35 rfl) (by decide) (by decide)) (g := (mkF m 188 #[iv p1, iv p2, iv p3, iv p4, iv p5, iv p6, iv 0, iv 1, iv g2, iv g3, iv ((p6 &&& (15 : Int32)) - (8 : Int32)), rv b29, iv (p5 &&& (2147483647 : Int32)), iv 0, .unset, .unset] [(.int 1), (.int 0), (.int (entF (0 : Int32) (1 : Int32)))])) rfl (by rw [hml]; rfl) (argsL := [(.int 0), (.int 1)]) (rest := [(.int (entF (0 : Int32) (1 : Int32)))]) (lenOf pd_0 rfl) rfl (by show 2 * 0 + _ ≤ _; exact Nat.le_of_eq rfl) (hb hby at_188) (fun _ _ => ⟨rfl, e52, (by decide : 3 + 0 ≤ _), (by decide : 24 + 0 ≤ _)⟩)
            dsimp only [Pt.U, Pt.locs, Pt.cells, Pt.slots] at X53 l53 y53 z53 st53 hQ53
            have l53 := l53.symm; have y53 := y53.symm; have z53 := z53.symm; subst l53 y53 z53
            have X53 : Stand p l e room_1 s m #[(.int p1), (.int p2), (.int p3), (.int p4), (.int p5), (.int p6)] below meth c T53 _ 3 24 := X53
            obtain ⟨rfl, M53, e53⟩ := hQ53
            have N53 := Fr.app N52 M53
            refine Goes.on (fun t k => st53 _ k) ?_
            show Goes p e below QQ (T53.setTop (mkF m 191 #[iv p1, iv p2, iv p3, iv p4, iv p5, iv p6, iv 0, iv 1, iv g2, iv g3, iv ((p6 &&& (15 : Int32)) - (8 : Int32)), rv b29, iv (p5 &&& (2147483647 : Int32)), iv 0, .unset, .unset] [(.int (fewF (0 : Int32) (1 : Int32))), (.int (entF (0 : Int32) (1 : Int32)))]))
            refine G1 (XS.icmpNo X53.here hx rfl (hb hby at_191) rfl (teq rfl).2) ?_
            show Gs p e below QQ T53 m 194 #[iv p1, iv p2, iv p3, iv p4, iv p5, iv p6, iv 0, iv 1, iv g2, iv g3, iv ((p6 &&& (15 : Int32)) - (8 : Int32)), rv b29, iv (p5 &&& (2147483647 : Int32)), iv 0, .unset, .unset] []
            refine G1 (XS.aload X53.here hx rfl (hb hby at_194) rfl rfl) ?_
            refine G1 (XS.iload X53.here hx rfl (hb hby at_196) rfl) ?_
            show Goes p e below QQ (T53.setTop (mkF m 198 #[iv p1, iv p2, iv p3, iv p4, iv p5, iv p6, iv 0, iv 1, iv g2, iv g3, iv ((p6 &&& (15 : Int32)) - (8 : Int32)), rv b29, iv (p5 &&& (2147483647 : Int32)), iv 0, .unset, .unset] [(.int 1), (.ref b29)]))
            obtain ⟨cq54, kq54, q54a, q54b, q54c⟩ := isOf hZ e53 A29_42
            obtain ⟨_, _, ⟨T54, L54, k54, n54⟩, -, X54, ⟨Lc54, hQ54, l54, y54, z54⟩, st54⟩ := X53.virtualBack hx (y := (⟨"com/example/bindery/bindery/PartIndex", "entryAt", "(I)I"⟩ : MethodName)) (z := (⟨"com/example/bindery/bindery/PartIndex", "entryAt", "(I)I"⟩ : MethodName)) hown (mvT hZ (wI hw 24 rfl)) (mvT hZ (wI hw 25 rfl)) (notFace_of_selects (args := #[]) (mvT hZ (wI hw 27 rfl))) (mvT hZ (wI hw 27 rfl)) (mvT hZ (wI hw 26 rfl)) (by decide) (backOf (W := 0) (rmE0 l Z a0 hw [] b29 (1 : Int32) (1 : Int32) T41.heap n0 (Nat.le_trans Z0 K48.1) slots_a0 size_a0) hZ (wI hw 28 rfl) (wI hw 2 rfl) (by decide) (by decide)) q54a q54c (g := (mkF m 198 #[iv p1, iv p2, iv p3, iv p4, iv p5, iv p6, iv 0, iv 1, iv g2, iv g3, iv ((p6 &&& (15 : Int32)) - (8 : Int32)), rv b29, iv (p5 &&& (2147483647 : Int32)), iv 0, .unset, .unset] [(.int 1), (.ref b29)])) rfl (by rw [hml]; rfl) (Steps.refl _) (argsL := [(.int 1)]) (rest := []) (lenOf pd_1 rfl) rfl (by show 2 * 0 + _ ≤ _; exact Nat.le_of_eq rfl) (hb hby at_198) (fun _ _ => ⟨rfl, e53, (by decide : 3 + 0 ≤ _), (by decide : 24 + 0 ≤ _)⟩)
            dsimp only [Pt.U, Pt.locs, Pt.cells, Pt.slots] at X54 l54 y54 z54 st54 hQ54
            have l54 := l54.symm; have y54 := y54.symm; have z54 := z54.symm; subst l54 y54 z54
            have X54 : Stand p l e room_1 s m #[(.int p1), (.int p2), (.int p3), (.int p4), (.int p5), (.int p6)] below meth c T54 _ 3 24 := X54
            obtain ⟨rfl, M54, e54⟩ := hQ54
            have N54 := Fr.app N53 M54
            refine Goes.on (fun t k => st54.trans k) ?_
            show Goes p e below QQ (T54.setTop (mkF m 201 #[iv p1, iv p2, iv p3, iv p4, iv p5, iv p6, iv 0, iv 1, iv g2, iv g3, iv ((p6 &&& (15 : Int32)) - (8 : Int32)), rv b29, iv (p5 &&& (2147483647 : Int32)), iv 0, .unset, .unset] [(.int (entF (1 : Int32) (1 : Int32)))]))
            refine G1 (XS.iconst X54.here hx rfl (hb hby at_201)) ?_
            show Gs p e below QQ T54 m 202 #[iv p1, iv p2, iv p3, iv p4, iv p5, iv p6, iv 0, iv 1, iv g2, iv g3, iv ((p6 &&& (15 : Int32)) - (8 : Int32)), rv b29, iv (p5 &&& (2147483647 : Int32)), iv 0, .unset, .unset] [(.int (-1)), (.int (entF (1 : Int32) (1 : Int32)))]
            refine G1 (XS.icmpNo X54.here hx rfl (hb hby at_202) rfl (teq (by decide)).2) ?_
            show Gs p e below QQ T54 m 205 #[iv p1, iv p2, iv p3, iv p4, iv p5, iv p6, iv 0, iv 1, iv g2, iv g3, iv ((p6 &&& (15 : Int32)) - (8 : Int32)), rv b29, iv (p5 &&& (2147483647 : Int32)), iv 0, .unset, .unset] []
            refine G1 (XS.aload X54.here hx rfl (hb hby at_205) rfl rfl) ?_
            refine G1 (XS.iload X54.here hx rfl (hb hby at_207) rfl) ?_
            show Goes p e below QQ (T54.setTop (mkF m 209 #[iv p1, iv p2, iv p3, iv p4, iv p5, iv p6, iv 0, iv 1, iv g2, iv g3, iv ((p6 &&& (15 : Int32)) - (8 : Int32)), rv b29, iv (p5 &&& (2147483647 : Int32)), iv 0, .unset, .unset] [(.int 0), (.ref b29)]))
            obtain ⟨cq55, kq55, q55a, q55b, q55c⟩ := isOf hZ e54 A29_42
            obtain ⟨_, _, ⟨T55, L55, k55, n55⟩, -, X55, ⟨Lc55, hQ55, l55, y55, z55⟩, st55⟩ := X54.virtualBack hx (y := (⟨"com/example/bindery/bindery/PartIndex", "entryAt", "(I)I"⟩ : MethodName)) (z := (⟨"com/example/bindery/bindery/PartIndex", "entryAt", "(I)I"⟩ : MethodName)) hown (mvT hZ (wI hw 24 rfl)) (mvT hZ (wI hw 25 rfl)) (notFace_of_selects (args := #[]) (mvT hZ (wI hw 27 rfl))) (mvT hZ (wI hw 27 rfl)) (mvT hZ (wI hw 26 rfl)) (by decide) (backOf (W := 0) (rmE0 l Z a0 hw [] b29 (0 : Int32) (1 : Int32) T41.heap n0 (Nat.le_trans Z0 K48.1) slots_a0 size_a0) hZ (wI hw 28 rfl) (wI hw 2 rfl) (by decide) (by decide)) q55a q55c (g := (mkF m 209 #[iv p1, iv p2, iv p3, iv p4, iv p5, iv p6, iv 0, iv 1, iv g2, iv g3, iv ((p6 &&& (15 : Int32)) - (8 : Int32)), rv b29, iv (p5 &&& (2147483647 : Int32)), iv 0, .unset, .unset] [(.int 0), (.ref b29)])) rfl (by rw [hml]; rfl) (Steps.refl _) (argsL := [(.int 0)]) (rest := []) (lenOf pd_1 rfl) rfl (by show 2 * 0 + _ ≤ _; exact Nat.le_of_eq rfl) (hb hby at_209) (fun _ _ => ⟨rfl, e54, (by decide : 3 + 0 ≤ _), (by decide : 24 + 0 ≤ _)⟩)
            dsimp only [Pt.U, Pt.locs, Pt.cells, Pt.slots] at X55 l55 y55 z55 st55 hQ55
            have l55 := l55.symm; have y55 := y55.symm; have z55 := z55.symm; subst l55 y55 z55
            have X55 : Stand p l e room_1 s m #[(.int p1), (.int p2), (.int p3), (.int p4), (.int p5), (.int p6)] below meth c T55 _ 3 24 := X55
            obtain ⟨rfl, M55, e55⟩ := hQ55
            have N55 := Fr.app N54 M55
            refine Goes.on (fun t k => st55.trans k) ?_
            show Goes p e below QQ (T55.setTop (mkF m 212 #[iv p1, iv p2, iv p3, iv p4, iv p5, iv p6, iv 0, iv 1, iv g2, iv g3, iv ((p6 &&& (15 : Int32)) - (8 : Int32)), rv b29, iv (p5 &&& (2147483647 : Int32)), iv 0, .unset, .unset] [(.int (entF (0 : Int32) (1 : Int32)))]))
            refine G1 (XS.iload X55.here hx rfl (hb hby at_212) rfl) ?_
            refine G1 (XS.iload X55.here hx rfl (hb hby at_214) rfl) ?_
            show Goes p e below QQ (T55.setTop (mkF m 216 #[iv p1, iv p2, iv p3, iv p4, iv p5, iv p6, iv 0, iv 1, iv g2, iv g3, iv ((p6 &&& (15 : Int32)) - (8 : Int32)), rv b29, iv (p5 &&& (2147483647 : Int32)), iv 0, .unset, .unset] [(.int 1), (.int 0), (.int (entF (0 : Int32) (1 : Int32)))]))
            obtain ⟨_, _, ⟨T56, L56, k56, n56⟩, -, X56, ⟨Lc56, hQ56, l56, y56, z56⟩, st56⟩ := Jvm.LawKit.callS X55 hx (y := (⟨"com/example/bindery/bindery/PartIndexEntryAtPinLaw", "few", "(II)I"⟩ : MethodName)) hown (mvT hZ (wI hw 33 rfl)) (mvT hZ (wI hw 34 rfl)) (mvT hZ (wI hw 35 rfl)) (mvT hZ (wI hw 36 rfl)) (by decide) (backOf (W := 1) (rmFe l Z a0 hw [] (0 : Int32) (1 : Int32) T41.heap n0 (Nat.le_trans Z0 K48.1) ) hZ (wI hw 36 rfl) (wI hw 35 rfl) (by decide) (by decide)) (g := (mkF m 216 #[iv p1, iv p2, iv p3, iv p4, iv p5, iv p6, iv 0, iv 1, iv g2, iv g3, iv ((p6 &&& (15 : Int32)) - (8 : Int32)), rv b29, iv (p5 &&& (2147483647 : Int32)), iv 0, .unset, .unset] [(.int 1), (.int 0), (.int (entF (0 : Int32) (1 : Int32)))])) rfl (by rw [hml]; rfl) (argsL := [(.int 0), (.int 1)]) (rest := [(.int (entF (0 : Int32) (1 : Int32)))]) (lenOf pd_0 rfl) rfl (by show 2 * 0 + _ ≤ _; exact Nat.le_of_eq rfl) (hb hby at_216) (fun _ _ => ⟨rfl, e55, (by decide : 3 + 0 ≤ _), (by decide : 24 + 0 ≤ _)⟩)
            dsimp only [Pt.U, Pt.locs, Pt.cells, Pt.slots] at X56 l56 y56 z56 st56 hQ56
            have l56 := l56.symm; have y56 := y56.symm; have z56 := z56.symm; subst l56 y56 z56
            have X56 : Stand p l e room_1 s m #[(.int p1), (.int p2), (.int p3), (.int p4), (.int p5), (.int p6)] below meth c T56 _ 3 24 := X56
            obtain ⟨rfl, M56, e56⟩ := hQ56
            have N56 := Fr.app N55 M56
            refine Goes.on (fun t k => st56 _ k) ?_
            show Goes p e below QQ (T56.setTop (mkF m 219 #[iv p1, iv p2, iv p3, iv p4, iv p5, iv p6, iv 0, iv 1, iv g2, iv g3, iv ((p6 &&& (15 : Int32)) - (8 : Int32)), rv b29, iv (p5 &&& (2147483647 : Int32)), iv 0, .unset, .unset] [(.int (fewF (0 : Int32) (1 : Int32))), (.int (entF (0 : Int32) (1 : Int32)))]))
            refine G1 (XS.icmpNo X56.here hx rfl (hb hby at_219) rfl (teq rfl).2) ?_
            show Gs p e below QQ T56 m 222 #[iv p1, iv p2, iv p3, iv p4, iv p5, iv p6, iv 0, iv 1, iv g2, iv g3, iv ((p6 &&& (15 : Int32)) - (8 : Int32)), rv b29, iv (p5 &&& (2147483647 : Int32)), iv 0, .unset, .unset] []
            refine G1 (XS.iconst X56.here hx rfl (hb hby at_222)) ?_
            refine G1 (XS.goto X56.here hx rfl (pc0 := 223) (pc' := 227) rfl (hb hby at_223) (by decide) (by decide)) ?_
            show Goes p e below QQ (T56.setTop (mkF m 227 #[iv p1, iv p2, iv p3, iv p4, iv p5, iv p6, iv 0, iv 1, iv g2, iv g3, iv ((p6 &&& (15 : Int32)) - (8 : Int32)), rv b29, iv (p5 &&& (2147483647 : Int32)), iv 0, .unset, .unset] [(.int 1)]))
            exact Goes.rN X56 hx (t := .boolean) hret (by simp) hlk (hb hby at_227) hQQ ⟨rfl, N56⟩ (by decide) (by decide)
          show Goes p e below QQ (T41.setTop (mkF m 149 #[iv p1, iv p2, iv p3, iv p4, iv p5, iv p6, iv 0, iv 1, iv g2, iv g3, iv ((p6 &&& (15 : Int32)) - (8 : Int32)), rv b29, iv (p5 &&& (2147483647 : Int32)), .unset, .unset, .unset] [(.int 1)]))
          refine G1 (XS.ifNo X41.here hx rfl (hb hby at_149) rfl ((if0 _ _).trans (tlt (by decide)).2.2.2)) ?_
          show Gs p e below QQ T41 m 152 #[iv p1, iv p2, iv p3, iv p4, iv p5, iv p6, iv 0, iv 1, iv g2, iv g3, iv ((p6 &&& (15 : Int32)) - (8 : Int32)), rv b29, iv (p5 &&& (2147483647 : Int32)), .unset, .unset, .unset] []
          refine G1 (XS.iload X41.here hx rfl (hb hby at_152) rfl) ?_
          refine G1 (XS.iconst X41.here hx rfl (hb hby at_154)) ?_
          show Gs p e below QQ T41 m 155 #[iv p1, iv p2, iv p3, iv p4, iv p5, iv p6, iv 0, iv 1, iv g2, iv g3, iv ((p6 &&& (15 : Int32)) - (8 : Int32)), rv b29, iv (p5 &&& (2147483647 : Int32)), .unset, .unset, .unset] [(.int 1), (.int 1)]
          refine G1 (XS.isub X41.here hx rfl (hb hby at_155) rfl) ?_
          show Goes p e below QQ (T41.setTop (mkF m 156 #[iv p1, iv p2, iv p3, iv p4, iv p5, iv p6, iv 0, iv 1, iv g2, iv g3, iv ((p6 &&& (15 : Int32)) - (8 : Int32)), rv b29, iv (p5 &&& (2147483647 : Int32)), .unset, .unset, .unset] [(.int ((1 : Int32) - (1 : Int32)))]))
          rw [(by decide : ((1 : Int32) - (1 : Int32)) = (0 : Int32))]
          show Goes p e below QQ (T41.setTop (mkF m 156 #[iv p1, iv p2, iv p3, iv p4, iv p5, iv p6, iv 0, iv 1, iv g2, iv g3, iv ((p6 &&& (15 : Int32)) - (8 : Int32)), rv b29, iv (p5 &&& (2147483647 : Int32)), .unset, .unset, .unset] [(.int 0)]))
          refine G1 (XS.goto X41.here hx rfl (pc0 := 156) (pc' := 160) rfl (hb hby at_156) (by decide) (by decide)) ?_
          show Goes p e below QQ (T41.setTop (mkF m 160 #[iv p1, iv p2, iv p3, iv p4, iv p5, iv p6, iv 0, iv 1, iv g2, iv g3, iv ((p6 &&& (15 : Int32)) - (8 : Int32)), rv b29, iv (p5 &&& (2147483647 : Int32)), .unset, .unset, .unset] [(.int 0)]))
          exact J49 _ _ X41 rfl N41
        show Goes p e below QQ (TJ27.setTop (mkF m 38 #[iv p1, iv p2, iv p3, iv p4, iv p5, iv p6, iv 0, iv 1, iv (if (p1 &&& (8 : Int32)) = (0 : Int32) then p3 else p2), .unset, .unset, .unset, .unset, .unset, .unset, .unset] [(.int (p1 &&& (16 : Int32)))]))
        by_cases hb57 : (p1 &&& (16 : Int32)) = (0 : Int32)
        · refine G1 (XS.ifYes XJ27.here hx rfl (pc0 := 38) (pc' := 45) rfl (hb hby at_38) rfl ((if0 _ _).trans (teq hb57).1) (by decide) (by decide)) ?_
          show Gs p e below QQ TJ27 m 45 #[iv p1, iv p2, iv p3, iv p4, iv p5, iv p6, iv 0, iv 1, iv (if (p1 &&& (8 : Int32)) = (0 : Int32) then p3 else p2), .unset, .unset, .unset, .unset, .unset, .unset, .unset] []
          refine G1 (XS.iloadN XJ27.here hx rfl (hb hby at_45) rfl) ?_
          refine G1 (XS.bipush XJ27.here hx rfl (hb hby at_46)) ?_
          show Gs p e below QQ TJ27 m 48 #[iv p1, iv p2, iv p3, iv p4, iv p5, iv p6, iv 0, iv 1, iv (if (p1 &&& (8 : Int32)) = (0 : Int32) then p3 else p2), .unset, .unset, .unset, .unset, .unset, .unset, .unset] [(.int 32), (.int p1)]
          refine G1 (XS.iand XJ27.here hx rfl (hb hby at_48) rfl) ?_
          show Goes p e below QQ (TJ27.setTop (mkF m 49 #[iv p1, iv p2, iv p3, iv p4, iv p5, iv p6, iv 0, iv 1, iv (if (p1 &&& (8 : Int32)) = (0 : Int32) then p3 else p2), .unset, .unset, .unset, .unset, .unset, .unset, .unset] [(.int (p1 &&& (32 : Int32)))]))
          by_cases hb58 : (p1 &&& (32 : Int32)) = (0 : Int32)
          · refine G1 (XS.ifYes XJ27.here hx rfl (pc0 := 49) (pc' := 57) rfl (hb hby at_49) rfl ((if0 _ _).trans (teq hb58).1) (by decide) (by decide)) ?_
            show Gs p e below QQ TJ27 m 57 #[iv p1, iv p2, iv p3, iv p4, iv p5, iv p6, iv 0, iv 1, iv (if (p1 &&& (8 : Int32)) = (0 : Int32) then p3 else p2), .unset, .unset, .unset, .unset, .unset, .unset, .unset] []
            refine G1 (XS.iloadN XJ27.here hx rfl (hb hby at_57) rfl) ?_
            show Goes p e below QQ (TJ27.setTop (mkF m 58 #[iv p1, iv p2, iv p3, iv p4, iv p5, iv p6, iv 0, iv 1, iv (if (p1 &&& (8 : Int32)) = (0 : Int32) then p3 else p2), .unset, .unset, .unset, .unset, .unset, .unset, .unset] [(.int p4)]))
            rw [(((if_pos hb57).trans ((if_pos hb58).trans rfl)) : (if (p1 &&& (16 : Int32)) = (0 : Int32) then (if (p1 &&& (32 : Int32)) = (0 : Int32) then p4 else (if (p1 &&& (8 : Int32)) = (0 : Int32) then p3 else p2)) else p2) = p4)] at J28
            exact J28 _ _ XJ27 eJ27 NJ27
          · refine G1 (XS.ifNo XJ27.here hx rfl (hb hby at_49) rfl ((if0 _ _).trans (feq hb58).1)) ?_
            show Gs p e below QQ TJ27 m 52 #[iv p1, iv p2, iv p3, iv p4, iv p5, iv p6, iv 0, iv 1, iv (if (p1 &&& (8 : Int32)) = (0 : Int32) then p3 else p2), .unset, .unset, .unset, .unset, .unset, .unset, .unset] []
            refine G1 (XS.iload XJ27.here hx rfl (hb hby at_52) rfl) ?_
            refine G1 (XS.goto XJ27.here hx rfl (pc0 := 54) (pc' := 58) rfl (hb hby at_54) (by decide) (by decide)) ?_
            show Goes p e below QQ (TJ27.setTop (mkF m 58 #[iv p1, iv p2, iv p3, iv p4, iv p5, iv p6, iv 0, iv 1, iv (if (p1 &&& (8 : Int32)) = (0 : Int32) then p3 else p2), .unset, .unset, .unset, .unset, .unset, .unset, .unset] [(.int (if (p1 &&& (8 : Int32)) = (0 : Int32) then p3 else p2))]))
            rw [(((if_pos hb57).trans ((if_neg hb58).trans rfl)) : (if (p1 &&& (16 : Int32)) = (0 : Int32) then (if (p1 &&& (32 : Int32)) = (0 : Int32) then p4 else (if (p1 &&& (8 : Int32)) = (0 : Int32) then p3 else p2)) else p2) = (if (p1 &&& (8 : Int32)) = (0 : Int32) then p3 else p2))] at J28
            exact J28 _ _ XJ27 eJ27 NJ27
        · refine G1 (XS.ifNo XJ27.here hx rfl (hb hby at_38) rfl ((if0 _ _).trans (feq hb57).1)) ?_
          show Gs p e below QQ TJ27 m 41 #[iv p1, iv p2, iv p3, iv p4, iv p5, iv p6, iv 0, iv 1, iv (if (p1 &&& (8 : Int32)) = (0 : Int32) then p3 else p2), .unset, .unset, .unset, .unset, .unset, .unset, .unset] []
          refine G1 (XS.iloadN XJ27.here hx rfl (hb hby at_41) rfl) ?_
          refine G1 (XS.goto XJ27.here hx rfl (pc0 := 42) (pc' := 58) rfl (hb hby at_42) (by decide) (by decide)) ?_
          show Goes p e below QQ (TJ27.setTop (mkF m 58 #[iv p1, iv p2, iv p3, iv p4, iv p5, iv p6, iv 0, iv 1, iv (if (p1 &&& (8 : Int32)) = (0 : Int32) then p3 else p2), .unset, .unset, .unset, .unset, .unset, .unset, .unset] [(.int p2)]))
          rw [(((if_neg hb57).trans rfl) : (if (p1 &&& (16 : Int32)) = (0 : Int32) then (if (p1 &&& (32 : Int32)) = (0 : Int32) then p4 else (if (p1 &&& (8 : Int32)) = (0 : Int32) then p3 else p2)) else p2) = p2)] at J28
          exact J28 _ _ XJ27 eJ27 NJ27
      show Goes p e below QQ (s₁.setTop (mkF m 24 #[iv p1, iv p2, iv p3, iv p4, iv p5, iv p6, iv 0, iv 1, .unset, .unset, .unset, .unset, .unset, .unset, .unset, .unset] [(.int (p1 &&& (8 : Int32)))]))
      by_cases hb59 : (p1 &&& (8 : Int32)) = (0 : Int32)
      · refine G1 (XS.ifYes X0.here hx rfl (pc0 := 24) (pc' := 31) rfl (hb hby at_24) rfl ((if0 _ _).trans (teq hb59).1) (by decide) (by decide)) ?_
        show Gs p e below QQ s₁ m 31 #[iv p1, iv p2, iv p3, iv p4, iv p5, iv p6, iv 0, iv 1, .unset, .unset, .unset, .unset, .unset, .unset, .unset, .unset] []
        refine G1 (XS.iloadN X0.here hx rfl (hb hby at_31) rfl) ?_
        show Goes p e below QQ (s₁.setTop (mkF m 32 #[iv p1, iv p2, iv p3, iv p4, iv p5, iv p6, iv 0, iv 1, .unset, .unset, .unset, .unset, .unset, .unset, .unset, .unset] [(.int p3)]))
        rw [(((if_pos hb59).trans rfl) : (if (p1 &&& (8 : Int32)) = (0 : Int32) then p3 else p2) = p3)] at J27
        exact J27 _ _ X0 e0 N0
      · refine G1 (XS.ifNo X0.here hx rfl (hb hby at_24) rfl ((if0 _ _).trans (feq hb59).1)) ?_
        show Gs p e below QQ s₁ m 27 #[iv p1, iv p2, iv p3, iv p4, iv p5, iv p6, iv 0, iv 1, .unset, .unset, .unset, .unset, .unset, .unset, .unset, .unset] []
        refine G1 (XS.iloadN X0.here hx rfl (hb hby at_27) rfl) ?_
        refine G1 (XS.goto X0.here hx rfl (pc0 := 28) (pc' := 32) rfl (hb hby at_28) (by decide) (by decide)) ?_
        show Goes p e below QQ (s₁.setTop (mkF m 32 #[iv p1, iv p2, iv p3, iv p4, iv p5, iv p6, iv 0, iv 1, .unset, .unset, .unset, .unset, .unset, .unset, .unset, .unset] [(.int p2)]))
        rw [(((if_neg hb59).trans rfl) : (if (p1 &&& (8 : Int32)) = (0 : Int32) then p3 else p2) = p2)] at J27
        exact J27 _ _ X0 e0 N0
    · rw [hk]
      show Goes p e below QQ (s₁.setTop (mkF m 20 #[iv p1, iv p2, iv p3, iv p4, iv p5, iv p6, iv 0, iv 2, .unset, .unset, .unset, .unset, .unset, .unset, .unset, .unset] []))
      refine G1 (XS.iloadN X0.here hx rfl (hb hby at_20) rfl) ?_
      refine G1 (XS.bipush X0.here hx rfl (hb hby at_21)) ?_
      show Gs p e below QQ s₁ m 23 #[iv p1, iv p2, iv p3, iv p4, iv p5, iv p6, iv 0, iv 2, .unset, .unset, .unset, .unset, .unset, .unset, .unset, .unset] [(.int 8), (.int p1)]
      refine G1 (XS.iand X0.here hx rfl (hb hby at_23) rfl) ?_
      show Goes p e below QQ (s₁.setTop (mkF m 24 #[iv p1, iv p2, iv p3, iv p4, iv p5, iv p6, iv 0, iv 2, .unset, .unset, .unset, .unset, .unset, .unset, .unset, .unset] [(.int (p1 &&& (8 : Int32)))]))
      have J60 : ∀ (TJ60 : State) (lJ60 : List Loc), Stand p l e room_1 s m #[(.int p1), (.int p2), (.int p3), (.int p4), (.int p5), (.int p6)] below meth c TJ60 lJ60 0 0 → TJ60.heap = h0 → Fr n0 lJ60 → Goes p e below QQ (TJ60.setTop (mkF m 32 #[iv p1, iv p2, iv p3, iv p4, iv p5, iv p6, iv 0, iv 2, .unset, .unset, .unset, .unset, .unset, .unset, .unset, .unset] [(.int (if (p1 &&& (8 : Int32)) = (0 : Int32) then p3 else p2))])) := by
        intro TJ60 lJ60 XJ60 eJ60 NJ60
        refine G1 (XS.istore XJ60.here hx rfl (hb hby at_32) rfl (l' := #[iv p1, iv p2, iv p3, iv p4, iv p5, iv p6, iv 0, iv 2, iv (if (p1 &&& (8 : Int32)) = (0 : Int32) then p3 else p2), .unset, .unset, .unset, .unset, .unset, .unset, .unset]) rfl) ?_
        refine G1 (XS.iloadN XJ60.here hx rfl (hb hby at_34) rfl) ?_
        refine G1 (XS.bipush XJ60.here hx rfl (hb hby at_35)) ?_
        show Gs p e below QQ TJ60 m 37 #[iv p1, iv p2, iv p3, iv p4, iv p5, iv p6, iv 0, iv 2, iv (if (p1 &&& (8 : Int32)) = (0 : Int32) then p3 else p2), .unset, .unset, .unset, .unset, .unset, .unset, .unset] [(.int 16), (.int p1)]
        refine G1 (XS.iand XJ60.here hx rfl (hb hby at_37) rfl) ?_
        show Goes p e below QQ (TJ60.setTop (mkF m 38 #[iv p1, iv p2, iv p3, iv p4, iv p5, iv p6, iv 0, iv 2, iv (if (p1 &&& (8 : Int32)) = (0 : Int32) then p3 else p2), .unset, .unset, .unset, .unset, .unset, .unset, .unset] [(.int (p1 &&& (16 : Int32)))]))
        have J61 : ∀ (TJ61 : State) (lJ61 : List Loc), Stand p l e room_1 s m #[(.int p1), (.int p2), (.int p3), (.int p4), (.int p5), (.int p6)] below meth c TJ61 lJ61 0 0 → TJ61.heap = h0 → Fr n0 lJ61 → Goes p e below QQ (TJ61.setTop (mkF m 58 #[iv p1, iv p2, iv p3, iv p4, iv p5, iv p6, iv 0, iv 2, iv (if (p1 &&& (8 : Int32)) = (0 : Int32) then p3 else p2), .unset, .unset, .unset, .unset, .unset, .unset, .unset] [(.int (if (p1 &&& (16 : Int32)) = (0 : Int32) then (if (p1 &&& (32 : Int32)) = (0 : Int32) then p4 else (if (p1 &&& (8 : Int32)) = (0 : Int32) then p3 else p2)) else p2))])) := by
          intro TJ61 lJ61 XJ61 eJ61 NJ61
          refine G1 (XS.istore XJ61.here hx rfl (hb hby at_58) rfl (l' := #[iv p1, iv p2, iv p3, iv p4, iv p5, iv p6, iv 0, iv 2, iv (if (p1 &&& (8 : Int32)) = (0 : Int32) then p3 else p2), iv (if (p1 &&& (16 : Int32)) = (0 : Int32) then (if (p1 &&& (32 : Int32)) = (0 : Int32) then p4 else (if (p1 &&& (8 : Int32)) = (0 : Int32) then p3 else p2)) else p2), .unset, .unset, .unset, .unset, .unset, .unset]) rfl) ?_
          show Goes p e below QQ (TJ61.setTop (mkF m 60 #[iv p1, iv p2, iv p3, iv p4, iv p5, iv p6, iv 0, iv 2, iv (if (p1 &&& (8 : Int32)) = (0 : Int32) then p3 else p2), iv (if (p1 &&& (16 : Int32)) = (0 : Int32) then (if (p1 &&& (32 : Int32)) = (0 : Int32) then p4 else (if (p1 &&& (8 : Int32)) = (0 : Int32) then p3 else p2)) else p2), .unset, .unset, .unset, .unset, .unset, .unset] []))
          generalize (if (p1 &&& (16 : Int32)) = (0 : Int32) then (if (p1 &&& (32 : Int32)) = (0 : Int32) then p4 else (if (p1 &&& (8 : Int32)) = (0 : Int32) then p3 else p2)) else p2) = g3
          generalize (if (p1 &&& (8 : Int32)) = (0 : Int32) then p3 else p2) = g2
          show Goes p e below QQ (TJ61.setTop (mkF m 60 #[iv p1, iv p2, iv p3, iv p4, iv p5, iv p6, iv 0, iv 2, iv g2, iv g3, .unset, .unset, .unset, .unset, .unset, .unset] []))
          refine G1 (XS.iload XJ61.here hx rfl (hb hby at_60) rfl) ?_
          show Gs p e below QQ TJ61 m 62 #[iv p1, iv p2, iv p3, iv p4, iv p5, iv p6, iv 0, iv 2, iv g2, iv g3, .unset, .unset, .unset, .unset, .unset, .unset] [(.int 0)]
          refine G1 (XS.ifYes XJ61.here hx rfl (pc0 := 62) (pc' := 76) rfl (hb hby at_62) rfl ((if0 _ _).trans (teq (by decide)).1) (by decide) (by decide)) ?_
          show Gs p e below QQ TJ61 m 76 #[iv p1, iv p2, iv p3, iv p4, iv p5, iv p6, iv 0, iv 2, iv g2, iv g3, .unset, .unset, .unset, .unset, .unset, .unset] []
          refine G1 (XS.iload XJ61.here hx rfl (hb hby at_76) rfl) ?_
          refine G1 (XS.bipush XJ61.here hx rfl (hb hby at_78)) ?_
          show Gs p e below QQ TJ61 m 80 #[iv p1, iv p2, iv p3, iv p4, iv p5, iv p6, iv 0, iv 2, iv g2, iv g3, .unset, .unset, .unset, .unset, .unset, .unset] [(.int 15), (.int p6)]
          refine G1 (XS.iand XJ61.here hx rfl (hb hby at_80) rfl) ?_
          show Gs p e below QQ TJ61 m 81 #[iv p1, iv p2, iv p3, iv p4, iv p5, iv p6, iv 0, iv 2, iv g2, iv g3, .unset, .unset, .unset, .unset, .unset, .unset] [(.int (p6 &&& (15 : Int32)))]
          refine G1 (XS.bipush XJ61.here hx rfl (hb hby at_81)) ?_
          show Gs p e below QQ TJ61 m 83 #[iv p1, iv p2, iv p3, iv p4, iv p5, iv p6, iv 0, iv 2, iv g2, iv g3, .unset, .unset, .unset, .unset, .unset, .unset] [(.int 8), (.int (p6 &&& (15 : Int32)))]
          refine G1 (XS.isub XJ61.here hx rfl (hb hby at_83) rfl) ?_
          show Gs p e below QQ TJ61 m 84 #[iv p1, iv p2, iv p3, iv p4, iv p5, iv p6, iv 0, iv 2, iv g2, iv g3, .unset, .unset, .unset, .unset, .unset, .unset] [(.int ((p6 &&& (15 : Int32)) - (8 : Int32)))]
          refine G1 (XS.istore XJ61.here hx rfl (hb hby at_84) rfl (l' := #[iv p1, iv p2, iv p3, iv p4, iv p5, iv p6, iv 0, iv 2, iv g2, iv g3, iv ((p6 &&& (15 : Int32)) - (8 : Int32)), .unset, .unset, .unset, .unset, .unset]) rfl) ?_
          show Goes p e below QQ (TJ61.setTop (mkF m 86 #[iv p1, iv p2, iv p3, iv p4, iv p5, iv p6, iv 0, iv 2, iv g2, iv g3, iv ((p6 &&& (15 : Int32)) - (8 : Int32)), .unset, .unset, .unset, .unset, .unset] []))
          obtain ⟨T62, h62, X62, e62, E62, A62, D62, -, st62⟩ := newO XJ61 hx hZ hown (wI hw 0 rfl) (wI hw 1 rfl) (wI hw 2 rfl) eJ61 (g := (mkF m 86 #[iv p1, iv p2, iv p3, iv p4, iv p5, iv p6, iv 0, iv 2, iv g2, iv g3, iv ((p6 &&& (15 : Int32)) - (8 : Int32)), .unset, .unset, .unset, .unset, .unset] [])) rfl (hb hby at_86) (by decide) (by decide)
          obtain ⟨b62, g62⟩ : ∃ z, z = h0.size := ⟨_, rfl⟩
          rw [← g62] at A62 D62 st62
          have sz_b62 : h0.size ≤ b62 := Nat.le_trans K0.1 (Nat.le_of_eq g62.symm)
          have g_b62 : n0 ≤ b62 := Nat.le_trans Z0 sz_b62
          have K62 := K0.ext E62
          have X62 : Stand p l e room_1 s m #[(.int p1), (.int p2), (.int p3), (.int p4), (.int p5), (.int p6)] below meth c T62 _ 1 4 := X62
          have F_63 : Fld Z h62 b62 "com/example/bindery/bindery/PartIndex" "hashes" "[I" .null := D62 (Or.inl (wI hw 22 rfl)) (ty := (.array .int)) (by decide)
          have F_64 : Fld Z h62 b62 "com/example/bindery/bindery/PartIndex" "slots" "[I" .null := D62 (Or.inl (wI hw 30 rfl)) (ty := (.array .int)) (by decide)
          have F_65 : Fld Z h62 b62 "com/example/bindery/bindery/PartIndex" "size" "I" (.int 0) := D62 (Or.inl (wI hw 32 rfl)) (ty := .int) (by decide)
          have F_66 : Fld Z h62 b62 "com/example/bindery/bindery/PartIndex" "shift" "I" (.int 0) := D62 (Or.inl (wI hw 61 rfl)) (ty := .int) (by decide)
          refine Goes.on (fun t k => st62 t k) ?_
          show Goes p e below QQ (T62.setTop (mkF m 89 #[iv p1, iv p2, iv p3, iv p4, iv p5, iv p6, iv 0, iv 2, iv g2, iv g3, iv ((p6 &&& (15 : Int32)) - (8 : Int32)), .unset, .unset, .unset, .unset, .unset] [(.ref b62)]))
          refine G1 (XS.dup X62.here hx rfl (hb hby at_89) rfl rfl) ?_
          refine G1 (XS.iload X62.here hx rfl (hb hby at_90) rfl) ?_
          show Goes p e below QQ (T62.setTop (mkF m 92 #[iv p1, iv p2, iv p3, iv p4, iv p5, iv p6, iv 0, iv 2, iv g2, iv g3, iv ((p6 &&& (15 : Int32)) - (8 : Int32)), .unset, .unset, .unset, .unset, .unset] [(.int ((p6 &&& (15 : Int32)) - (8 : Int32))), (.ref b62), (.ref b62)]))
          obtain ⟨nn, hr, hn⟩ := own_room0 p6
          obtain ⟨_, _, ⟨T67, L67, k67, n67⟩, -, X67, ⟨Lc67, hQ67, l67, y67, z67⟩, st67⟩ := X62.specialBack hx (y := (⟨"com/example/bindery/bindery/PartIndex", "<init>", "(I)V"⟩ : MethodName)) rfl hown (mvT hZ (wI hw 3 rfl)) (mvT hZ (wI hw 4 rfl)) (mvT hZ (wI hw 5 rfl)) (by decide) (backOf (W := 1) (rmIn0 l Z a0 hw [] b62 ((p6 &&& (15 : Int32)) - (8 : Int32)) nn h62 n0 (Nat.le_trans Z0 K62.1) A62 F_63 F_64 F_66 F_65 g_b62 hr hn) hZ (wI hw 5 rfl) (wI hw 2 rfl) (by decide) (by decide)) (g := (mkF m 92 #[iv p1, iv p2, iv p3, iv p4, iv p5, iv p6, iv 0, iv 2, iv g2, iv g3, iv ((p6 &&& (15 : Int32)) - (8 : Int32)), .unset, .unset, .unset, .unset, .unset] [(.int ((p6 &&& (15 : Int32)) - (8 : Int32))), (.ref b62), (.ref b62)])) rfl (by rw [hml]; rfl) (Steps.refl _) (a := b62) (argsL := [(.int ((p6 &&& (15 : Int32)) - (8 : Int32)))]) (rest := [(.ref b62)]) (lenOf pd_2 rfl) rfl (by show 2 * 0 + _ ≤ _; exact Nat.le_of_eq rfl) (hb hby at_92) (fun _ _ => ⟨rfl, e62, (by decide : 1 + 1 ≤ _), (by decide : 4 + 16 ≤ _)⟩)
          dsimp only [Pt.U, Pt.locs, Pt.cells, Pt.slots] at X67 l67 y67 z67 st67 hQ67
          have l67 := l67.symm; have y67 := y67.symm; have z67 := z67.symm; subst l67 y67 z67
          have X67 : Stand p l e room_1 s m #[(.int p1), (.int p2), (.int p3), (.int p4), (.int p5), (.int p6)] below meth c T67 _ 2 20 := X67
          obtain ⟨bh0, kh0, rfl, M67, Kc, szh, ⟨hashes_c, slots_c, shift_c, size_c⟩, Vh0⟩ := hQ67
          have sz_bh0 : h0.size ≤ bh0 := Nat.le_trans K62.1 szh
          have g_bh0 : n0 ≤ bh0 := Nat.le_trans Z0 sz_bh0
          have ne_b62_bh0 : b62 ≠ bh0 := Nat.ne_of_lt (Nat.lt_of_lt_of_le A62.lt szh)
          have N67 := Fr.app NJ61 M67
          refine Goes.on (fun t k => st67.trans k) ?_
          have A62_68 := A62.keep Kc
          have K73 := K62.trans Kc (allS (Or.inr sz_b62) all0)
          show Goes p e below QQ (T67.setTop (mkF m 95 #[iv p1, iv p2, iv p3, iv p4, iv p5, iv p6, iv 0, iv 2, iv g2, iv g3, iv ((p6 &&& (15 : Int32)) - (8 : Int32)), .unset, .unset, .unset, .unset, .unset] [(.ref b62)]))
          refine G1 (XS.astore X67.here hx rfl (hb hby at_95) rfl rfl (l' := #[iv p1, iv p2, iv p3, iv p4, iv p5, iv p6, iv 0, iv 2, iv g2, iv g3, iv ((p6 &&& (15 : Int32)) - (8 : Int32)), rv b62, .unset, .unset, .unset, .unset]) rfl) ?_
          refine G1 (XS.iload X67.here hx rfl (hb hby at_97) rfl) ?_
          refine G1 (XS.iconst X67.here hx rfl (hb hby at_99)) ?_
          show Gs p e below QQ T67 m 100 #[iv p1, iv p2, iv p3, iv p4, iv p5, iv p6, iv 0, iv 2, iv g2, iv g3, iv ((p6 &&& (15 : Int32)) - (8 : Int32)), rv b62, .unset, .unset, .unset, .unset] [(.int 1), (.int 2)]
          refine G1 (XS.icmpNo X67.here hx rfl (hb hby at_100) rfl (flt (by decide)).1) ?_
          show Gs p e below QQ T67 m 103 #[iv p1, iv p2, iv p3, iv p4, iv p5, iv p6, iv 0, iv 2, iv g2, iv g3, iv ((p6 &&& (15 : Int32)) - (8 : Int32)), rv b62, .unset, .unset, .unset, .unset] []
          refine G1 (XS.aload X67.here hx rfl (hb hby at_103) rfl rfl) ?_
          refine G1 (XS.iloadN X67.here hx rfl (hb hby at_105) rfl) ?_
          show Goes p e below QQ (T67.setTop (mkF m 106 #[iv p1, iv p2, iv p3, iv p4, iv p5, iv p6, iv 0, iv 2, iv g2, iv g3, iv ((p6 &&& (15 : Int32)) - (8 : Int32)), rv b62, .unset, .unset, .unset, .unset] [(.int p2), (.ref b62)]))
          obtain ⟨cq74, kq74, q74a, q74b, q74c⟩ := isOf hZ rfl A62_68
          obtain ⟨_, _, ⟨T74, L74, k74, n74⟩, -, X74, ⟨Lc74, hQ74, l74, y74, z74⟩, st74⟩ := X67.virtualBack hx (y := (⟨"com/example/bindery/bindery/PartIndex", "add", "(I)V"⟩ : MethodName)) (z := (⟨"com/example/bindery/bindery/PartIndex", "add", "(I)V"⟩ : MethodName)) hown (mvT hZ (wI hw 37 rfl)) (mvT hZ (wI hw 38 rfl)) (notFace_of_selects (args := #[]) (mvT hZ (wI hw 40 rfl))) (mvT hZ (wI hw 40 rfl)) (mvT hZ (wI hw 39 rfl)) (by decide) (backOf (W := 0) (rmA0_0 l Z a0 hw [] b62 bh0 p2 kh0 nn (0 : Int32) (0 : Int32) (0 : Int32) (0 : Int32) T67.heap n0 (Nat.le_trans Z0 K73.1) A62_68 hashes_c slots_c shift_c size_c Vh0 g_b62 g_bh0 ne_b62_bh0 (own_ge0 nn hn)) hZ (wI hw 41 rfl) (wI hw 2 rfl) (by decide) (by decide)) q74a q74c (g := (mkF m 106 #[iv p1, iv p2, iv p3, iv p4, iv p5, iv p6, iv 0, iv 2, iv g2, iv g3, iv ((p6 &&& (15 : Int32)) - (8 : Int32)), rv b62, .unset, .unset, .unset, .unset] [(.int p2), (.ref b62)])) rfl (by rw [hml]; rfl) (Steps.refl _) (argsL := [(.int p2)]) (rest := []) (lenOf pd_2 rfl) rfl (by show 2 * 0 + _ ≤ _; exact Nat.le_of_eq rfl) (hb hby at_106) (fun _ _ => ⟨rfl, rfl, (by decide : 2 + 1 ≤ _), (by decide : 20 + 4 ≤ _)⟩)
          dsimp only [Pt.U, Pt.locs, Pt.cells, Pt.slots] at X74 l74 y74 z74 st74 hQ74
          have l74 := l74.symm; have y74 := y74.symm; have z74 := z74.symm; subst l74 y74 z74
          have X74 : Stand p l e room_1 s m #[(.int p1), (.int p2), (.int p3), (.int p4), (.int p5), (.int p6)] below meth c T74 _ 3 24 := X74
          obtain ⟨bh1, kh1, nn1, y0a0, y1a0, y2a0, rfl, M74, Kca0, g_bh1, od1, nea0, hNa0, ⟨hashes_a0, slots_a0, shift_a0, size_a0⟩, Vha0⟩ := hQ74
          have N74 := Fr.app N67 M74
          refine Goes.on (fun t k => st74.trans k) ?_
          have A62_75 := A62_68.keep Kca0
          have K81 := K73.trans Kca0 (allS (Or.inr sz_b62) (allS (Or.inr sz_bh0) all0))
          show Goes p e below QQ (T74.setTop (mkF m 109 #[iv p1, iv p2, iv p3, iv p4, iv p5, iv p6, iv 0, iv 2, iv g2, iv g3, iv ((p6 &&& (15 : Int32)) - (8 : Int32)), rv b62, .unset, .unset, .unset, .unset] []))
          have sz_bh1 : h0.size ≤ bh1 := od1.elim (fun z => Nat.le_trans sz_bh0 (Nat.le_of_eq z.symm)) (fun z => Nat.le_trans K73.1 z)
          refine G1 (XS.iload X74.here hx rfl (hb hby at_109) rfl) ?_
          refine G1 (XS.iconst X74.here hx rfl (hb hby at_111)) ?_
          show Gs p e below QQ T74 m 112 #[iv p1, iv p2, iv p3, iv p4, iv p5, iv p6, iv 0, iv 2, iv g2, iv g3, iv ((p6 &&& (15 : Int32)) - (8 : Int32)), rv b62, .unset, .unset, .unset, .unset] [(.int 2), (.int 2)]
          refine G1 (XS.icmpNo X74.here hx rfl (hb hby at_112) rfl (flt (by decide)).1) ?_
          show Gs p e below QQ T74 m 115 #[iv p1, iv p2, iv p3, iv p4, iv p5, iv p6, iv 0, iv 2, iv g2, iv g3, iv ((p6 &&& (15 : Int32)) - (8 : Int32)), rv b62, .unset, .unset, .unset, .unset] []
          refine G1 (XS.aload X74.here hx rfl (hb hby at_115) rfl rfl) ?_
          refine G1 (XS.iload X74.here hx rfl (hb hby at_117) rfl) ?_
          show Goes p e below QQ (T74.setTop (mkF m 119 #[iv p1, iv p2, iv p3, iv p4, iv p5, iv p6, iv 0, iv 2, iv g2, iv g3, iv ((p6 &&& (15 : Int32)) - (8 : Int32)), rv b62, .unset, .unset, .unset, .unset] [(.int g2), (.ref b62)]))
          obtain ⟨cq82, kq82, q82a, q82b, q82c⟩ := isOf hZ rfl A62_75
          obtain ⟨_, _, ⟨T82, L82, k82, n82⟩, -, X82, ⟨Lc82, hQ82, l82, y82, z82⟩, st82⟩ := X74.virtualBack hx (y := (⟨"com/example/bindery/bindery/PartIndex", "add", "(I)V"⟩ : MethodName)) (z := (⟨"com/example/bindery/bindery/PartIndex", "add", "(I)V"⟩ : MethodName)) hown (mvT hZ (wI hw 37 rfl)) (mvT hZ (wI hw 38 rfl)) (notFace_of_selects (args := #[]) (mvT hZ (wI hw 40 rfl))) (mvT hZ (wI hw 40 rfl)) (mvT hZ (wI hw 39 rfl)) (by decide) (backOf (W := 0) (rmA0_1 l Z a0 hw [] b62 bh1 g2 kh1 nn1 (0 : Int32) y0a0 y1a0 y2a0 T74.heap n0 (Nat.le_trans Z0 K81.1) A62_75 hashes_a0 slots_a0 shift_a0 size_a0 Vha0 g_b62 g_bh1 nea0 hNa0) hZ (wI hw 41 rfl) (wI hw 2 rfl) (by decide) (by decide)) q82a q82c (g := (mkF m 119 #[iv p1, iv p2, iv p3, iv p4, iv p5, iv p6, iv 0, iv 2, iv g2, iv g3, iv ((p6 &&& (15 : Int32)) - (8 : Int32)), rv b62, .unset, .unset, .unset, .unset] [(.int g2), (.ref b62)])) rfl (by rw [hml]; rfl) (Steps.refl _) (argsL := [(.int g2)]) (rest := []) (lenOf pd_2 rfl) rfl (by show 2 * 0 + _ ≤ _; exact Nat.le_of_eq rfl) (hb hby at_119) (fun _ _ => ⟨rfl, rfl, (by decide : 3 + 1 ≤ _), (by decide : 24 + 4 ≤ _)⟩)
          dsimp only [Pt.U, Pt.locs, Pt.cells, Pt.slots] at X82 l82 y82 z82 st82 hQ82
          have l82 := l82.symm; have y82 := y82.symm; have z82 := z82.symm; subst l82 y82 z82
          have X82 : Stand p l e room_1 s m #[(.int p1), (.int p2), (.int p3), (.int p4), (.int p5), (.int p6)] below meth c T82 _ 4 28 := X82
          obtain ⟨bh2, kh2, nn2, y0a1, y1a1, y2a1, rfl, M82, Kca1, g_bh2, od2, nea1, hNa1, ⟨hashes_a1, slots_a1, shift_a1, size_a1⟩, Vha1⟩ := hQ82
          have N82 := Fr.app N74 M82
          refine Goes.on (fun t k => st82.trans k) ?_
          have A62_83 := A62_75.keep Kca1
          have K89 := K81.trans Kca1 (allS (Or.inr sz_b62) (allS (Or.inr sz_bh1) all0))
          show Goes p e below QQ (T82.setTop (mkF m 122 #[iv p1, iv p2, iv p3, iv p4, iv p5, iv p6, iv 0, iv 2, iv g2, iv g3, iv ((p6 &&& (15 : Int32)) - (8 : Int32)), rv b62, .unset, .unset, .unset, .unset] []))
          have sz_bh2 : h0.size ≤ bh2 := od2.elim (fun z => Nat.le_trans sz_bh1 (Nat.le_of_eq z.symm)) (fun z => Nat.le_trans K81.1 z)
          refine G1 (XS.iload X82.here hx rfl (hb hby at_122) rfl) ?_
          refine G1 (XS.iconst X82.here hx rfl (hb hby at_124)) ?_
          show Gs p e below QQ T82 m 125 #[iv p1, iv p2, iv p3, iv p4, iv p5, iv p6, iv 0, iv 2, iv g2, iv g3, iv ((p6 &&& (15 : Int32)) - (8 : Int32)), rv b62, .unset, .unset, .unset, .unset] [(.int 3), (.int 2)]
          refine G1 (XS.icmpYes X82.here hx rfl (pc0 := 125) (pc' := 135) rfl (hb hby at_125) rfl (tlt (by decide)).1 (by decide) (by decide)) ?_
          show Gs p e below QQ T82 m 135 #[iv p1, iv p2, iv p3, iv p4, iv p5, iv p6, iv 0, iv 2, iv g2, iv g3, iv ((p6 &&& (15 : Int32)) - (8 : Int32)), rv b62, .unset, .unset, .unset, .unset] []
          refine G1 (XS.iload X82.here hx rfl (hb hby at_135) rfl) ?_
          show Gs p e below QQ T82 m 137 #[iv p1, iv p2, iv p3, iv p4, iv p5, iv p6, iv 0, iv 2, iv g2, iv g3, iv ((p6 &&& (15 : Int32)) - (8 : Int32)), rv b62, .unset, .unset, .unset, .unset] [(.int 0)]
          refine G1 (XS.ifNo X82.here hx rfl (hb hby at_137) rfl ((if0 _ _).trans (teq (by decide)).2)) ?_
          show Gs p e below QQ T82 m 140 #[iv p1, iv p2, iv p3, iv p4, iv p5, iv p6, iv 0, iv 2, iv g2, iv g3, iv ((p6 &&& (15 : Int32)) - (8 : Int32)), rv b62, .unset, .unset, .unset, .unset] []
          refine G1 (XS.iload X82.here hx rfl (hb hby at_140) rfl) ?_
          show Goes p e below QQ (T82.setTop (mkF m 142 #[iv p1, iv p2, iv p3, iv p4, iv p5, iv p6, iv 0, iv 2, iv g2, iv g3, iv ((p6 &&& (15 : Int32)) - (8 : Int32)), rv b62, .unset, .unset, .unset, .unset] [(.int p5)]))
          refine Goes.on (fun t k => X82.ldcInt hx hown (mvT hZ (wI hw 23 rfl)) (g := (mkF m 142 #[iv p1, iv p2, iv p3, iv p4, iv p5, iv p6, iv 0, iv 2, iv g2, iv g3, iv ((p6 &&& (15 : Int32)) - (8 : Int32)), rv b62, .unset, .unset, .unset, .unset] [(.int p5)])) rfl (hb hby at_142) t k) ?_
          show Goes p e below QQ (T82.setTop (mkF m 144 #[iv p1, iv p2, iv p3, iv p4, iv p5, iv p6, iv 0, iv 2, iv g2, iv g3, iv ((p6 &&& (15 : Int32)) - (8 : Int32)), rv b62, .unset, .unset, .unset, .unset] [(.int 2147483647), (.int p5)]))
          refine G1 (XS.iand X82.here hx rfl (hb hby at_144) rfl) ?_
          show Gs p e below QQ T82 m 145 #[iv p1, iv p2, iv p3, iv p4, iv p5, iv p6, iv 0, iv 2, iv g2, iv g3, iv ((p6 &&& (15 : Int32)) - (8 : Int32)), rv b62, .unset, .unset, .unset, .unset] [(.int (p5 &&& (2147483647 : Int32)))]
          refine G1 (XS.istore X82.here hx rfl (hb hby at_145) rfl (l' := #[iv p1, iv p2, iv p3, iv p4, iv p5, iv p6, iv 0, iv 2, iv g2, iv g3, iv ((p6 &&& (15 : Int32)) - (8 : Int32)), rv b62, iv (p5 &&& (2147483647 : Int32)), .unset, .unset, .unset]) rfl) ?_
          refine G1 (XS.iload X82.here hx rfl (hb hby at_147) rfl) ?_
          show Goes p e below QQ (T82.setTop (mkF m 149 #[iv p1, iv p2, iv p3, iv p4, iv p5, iv p6, iv 0, iv 2, iv g2, iv g3, iv ((p6 &&& (15 : Int32)) - (8 : Int32)), rv b62, iv (p5 &&& (2147483647 : Int32)), .unset, .unset, .unset] [(.int 2)]))
          have J90 : ∀ (TJ90 : State) (lJ90 : List Loc), Stand p l e room_1 s m #[(.int p1), (.int p2), (.int p3), (.int p4), (.int p5), (.int p6)] below meth c TJ90 lJ90 4 28 → TJ90.heap = T82.heap → Fr n0 lJ90 → Goes p e below QQ (TJ90.setTop (mkF m 160 #[iv p1, iv p2, iv p3, iv p4, iv p5, iv p6, iv 0, iv 2, iv g2, iv g3, iv ((p6 &&& (15 : Int32)) - (8 : Int32)), rv b62, iv (p5 &&& (2147483647 : Int32)), .unset, .unset, .unset] [(.int 1)])) := by
            intro TJ90 lJ90 XJ90 eJ90 NJ90
            refine G1 (XS.istore XJ90.here hx rfl (hb hby at_160) rfl (l' := #[iv p1, iv p2, iv p3, iv p4, iv p5, iv p6, iv 0, iv 2, iv g2, iv g3, iv ((p6 &&& (15 : Int32)) - (8 : Int32)), rv b62, iv (p5 &&& (2147483647 : Int32)), iv 1, .unset, .unset]) rfl) ?_
            refine G1 (XS.aload XJ90.here hx rfl (hb hby at_162) rfl rfl) ?_
            refine G1 (XS.iload XJ90.here hx rfl (hb hby at_164) rfl) ?_
            show Goes p e below QQ (TJ90.setTop (mkF m 166 #[iv p1, iv p2, iv p3, iv p4, iv p5, iv p6, iv 0, iv 2, iv g2, iv g3, iv ((p6 &&& (15 : Int32)) - (8 : Int32)), rv b62, iv (p5 &&& (2147483647 : Int32)), iv 1, .unset, .unset] [(.int (p5 &&& (2147483647 : Int32))), (.ref b62)]))
            obtain ⟨cq91, kq91, q91a, q91b, q91c⟩ := isOf hZ eJ90 A62_83
            obtain ⟨_, _, ⟨T91, L91, k91, n91⟩, -, X91, ⟨Lc91, hQ91, l91, y91, z91⟩, st91⟩ := XJ90.virtualBack hx (y := (⟨"com/example/bindery/bindery/PartIndex", "entryAt", "(I)I"⟩ : MethodName)) (z := (⟨"com/example/bindery/bindery/PartIndex", "entryAt", "(I)I"⟩ : MethodName)) hown (mvT hZ (wI hw 24 rfl)) (mvT hZ (wI hw 25 rfl)) (notFace_of_selects (args := #[]) (mvT hZ (wI hw 27 rfl))) (mvT hZ (wI hw 27 rfl)) (mvT hZ (wI hw 26 rfl)) (by decide) (backOf (W := 0) (rmE0 l Z a0 hw [] b62 (p5 &&& (2147483647 : Int32)) (2 : Int32) T82.heap n0 (Nat.le_trans Z0 K89.1) slots_a1 size_a1) hZ (wI hw 28 rfl) (wI hw 2 rfl) (by decide) (by decide)) q91a q91c (g := (mkF m 166 #[iv p1, iv p2, iv p3, iv p4, iv p5, iv p6, iv 0, iv 2, iv g2, iv g3, iv ((p6 &&& (15 : Int32)) - (8 : Int32)), rv b62, iv (p5 &&& (2147483647 : Int32)), iv 1, .unset, .unset] [(.int (p5 &&& (2147483647 : Int32))), (.ref b62)])) rfl (by rw [hml]; rfl) (Steps.refl _) (argsL := [(.int (p5 &&& (2147483647 : Int32)))]) (rest := []) (lenOf pd_1 rfl) rfl (by show 2 * 0 + _ ≤ _; exact Nat.le_of_eq rfl) (hb hby at_166) (fun _ _ => ⟨rfl, eJ90, (by decide : 4 + 0 ≤ _), (by decide : 28 + 0 ≤ _)⟩)
            dsimp only [Pt.U, Pt.locs, Pt.cells, Pt.slots] at X91 l91 y91 z91 st91 hQ91
            have l91 := l91.symm; have y91 := y91.symm; have z91 := z91.symm; subst l91 y91 z91
            have X91 : Stand p l e room_1 s m #[(.int p1), (.int p2), (.int p3), (.int p4), (.int p5), (.int p6)] below meth c T91 _ 4 28 := X91
            obtain ⟨rfl, M91, e91⟩ := hQ91
            have N91 := Fr.app NJ90 M91
            refine Goes.on (fun t k => st91.trans k) ?_
            show Goes p e below QQ (T91.setTop (mkF m 169 #[iv p1, iv p2, iv p3, iv p4, iv p5, iv p6, iv 0, iv 2, iv g2, iv g3, iv ((p6 &&& (15 : Int32)) - (8 : Int32)), rv b62, iv (p5 &&& (2147483647 : Int32)), iv 1, .unset, .unset] [(.int (entF (p5 &&& (2147483647 : Int32)) (2 : Int32)))]))
            refine G1 (XS.iload X91.here hx rfl (hb hby at_169) rfl) ?_
            refine G1 (XS.iload X91.here hx rfl (hb hby at_171) rfl) ?_
            show Goes p e below QQ (T91.setTop (mkF m 173 #[iv p1, iv p2, iv p3, iv p4, iv p5, iv p6, iv 0, iv 2, iv g2, iv g3, iv ((p6 &&& (15 : Int32)) - (8 : Int32)), rv b62, iv (p5 &&& (2147483647 : Int32)), iv 1, .unset, .unset] [(.int 2), (.int (p5 &&& (2147483647 : Int32))), (.int (entF (p5 &&& (2147483647 : Int32)) (2 : Int32)))]))
            obtain ⟨_, _, ⟨T92, L92, k92, n92⟩, -, X92, ⟨Lc92, hQ92, l92, y92, z92⟩, st92⟩ := Jvm.LawKit.callS X91 hx (y := (⟨"com/example/bindery/bindery/PartIndexEntryAtPinLaw", "few", "(II)I"⟩ : MethodName)) hown (mvT hZ (wI hw 33 rfl)) (mvT hZ (wI hw 34 rfl)) (mvT hZ (wI hw 35 rfl)) (mvT hZ (wI hw 36 rfl)) (by decide) (backOf (W := 1) (rmFe l Z a0 hw [] (p5 &&& (2147483647 : Int32)) (2 : Int32) T82.heap n0 (Nat.le_trans Z0 K89.1) ) hZ (wI hw 36 rfl) (wI hw 35 rfl) (by decide) (by decide)) (g := (mkF m 173 #[iv p1, iv p2, iv p3, iv p4, iv p5, iv p6, iv 0, iv 2, iv g2, iv g3, iv ((p6 &&& (15 : Int32)) - (8 : Int32)), rv b62, iv (p5 &&& (2147483647 : Int32)), iv 1, .unset, .unset] [(.int 2), (.int (p5 &&& (2147483647 : Int32))), (.int (entF (p5 &&& (2147483647 : Int32)) (2 : Int32)))])) rfl (by rw [hml]; rfl) (argsL := [(.int (p5 &&& (2147483647 : Int32))), (.int 2)]) (rest := [(.int (entF (p5 &&& (2147483647 : Int32)) (2 : Int32)))]) (lenOf pd_0 rfl) rfl (by show 2 * 0 + _ ≤ _; exact Nat.le_of_eq rfl) (hb hby at_173) (fun _ _ => ⟨rfl, e91, (by decide : 4 + 0 ≤ _), (by decide : 28 + 0 ≤ _)⟩)
            dsimp only [Pt.U, Pt.locs, Pt.cells, Pt.slots] at X92 l92 y92 z92 st92 hQ92
            have l92 := l92.symm; have y92 := y92.symm; have z92 := z92.symm; subst l92 y92 z92
            have X92 : Stand p l e room_1 s m #[(.int p1), (.int p2), (.int p3), (.int p4), (.int p5), (.int p6)] below meth c T92 _ 4 28 := X92
            obtain ⟨rfl, M92, e92⟩ := hQ92
            have N92 := Fr.app N91 M92
            refine Goes.on (fun t k => st92 _ k) ?_
            show Goes p e below QQ (T92.setTop (mkF m 176 #[iv p1, iv p2, iv p3, iv p4, iv p5, iv p6, iv 0, iv 2, iv g2, iv g3, iv ((p6 &&& (15 : Int32)) - (8 : Int32)), rv b62, iv (p5 &&& (2147483647 : Int32)), iv 1, .unset, .unset] [(.int (fewF (p5 &&& (2147483647 : Int32)) (2 : Int32))), (.int (entF (p5 &&& (2147483647 : Int32)) (2 : Int32)))]))
            refine G1 (XS.icmpNo X92.here hx rfl (hb hby at_176) rfl (teq rfl).2) ?_
            show Gs p e below QQ T92 m 179 #[iv p1, iv p2, iv p3, iv p4, iv p5, iv p6, iv 0, iv 2, iv g2, iv g3, iv ((p6 &&& (15 : Int32)) - (8 : Int32)), rv b62, iv (p5 &&& (2147483647 : Int32)), iv 1, .unset, .unset] []
            refine G1 (XS.aload X92.here hx rfl (hb hby at_179) rfl rfl) ?_
            refine G1 (XS.iconst X92.here hx rfl (hb hby at_181)) ?_
            show Goes p e below QQ (T92.setTop (mkF m 182 #[iv p1, iv p2, iv p3, iv p4, iv p5, iv p6, iv 0, iv 2, iv g2, iv g3, iv ((p6 &&& (15 : Int32)) - (8 : Int32)), rv b62, iv (p5 &&& (2147483647 : Int32)), iv 1, .unset, .unset] [(.int 0), (.ref b62)]))
            obtain ⟨cq93, kq93, q93a, q93b, q93c⟩ := isOf hZ e92 A62_83
            obtain ⟨_, _, ⟨T93, L93, k93, n93⟩, -, X93, ⟨Lc93, hQ93, l93, y93, z93⟩, st93⟩ := X92.virtualBack hx (y := (⟨"com/example/bindery/bindery/PartIndex", "entryAt", "(I)I"⟩ : MethodName)) (z := (⟨"com/example/bindery/bindery/PartIndex", "entryAt", "(I)I"⟩ : MethodName)) hown (mvT hZ (wI hw 24 rfl)) (mvT hZ (wI hw 25 rfl)) (notFace_of_selects (args := #[]) (mvT hZ (wI hw 27 rfl))) (mvT hZ (wI hw 27 rfl)) (mvT hZ (wI hw 26 rfl)) (by decide) (backOf (W := 0) (rmE0 l Z a0 hw [] b62 (0 : Int32) (2 : Int32) T82.heap n0 (Nat.le_trans Z0 K89.1) slots_a1 size_a1) hZ (wI hw 28 rfl) (wI hw 2 rfl) (by decide) (by decide)) q93a q93c (g := (mkF m 182 #[iv p1, iv p2, iv p3, iv p4, iv p5, iv p6, iv 0, iv 2, iv g2, iv g3, iv ((p6 &&& (15 : Int32)) - (8 : Int32)), rv b62, iv (p5 &&& (2147483647 : Int32)), iv 1, .unset, .unset] [(.int 0), (.ref b62)])) rfl (by rw [hml]; rfl) (Steps.refl _) (argsL := [(.int 0)]) (rest := []) (lenOf pd_1 rfl) rfl (by show 2 * 0 + _ ≤ _; exact Nat.le_of_eq rfl) (hb hby at_182) (fun _ _ => ⟨rfl, e92, (by decide : 4 + 0 ≤ _), (by decide : 28 + 0 ≤ _)⟩)
            dsimp only [Pt.U, Pt.locs, Pt.cells, Pt.slots] at X93 l93 y93 z93 st93 hQ93
            have l93 := l93.symm; have y93 := y93.symm; have z93 := z93.symm; subst l93 y93 z93
            have X93 : Stand p l e room_1 s m #[(.int p1), (.int p2), (.int p3), (.int p4), (.int p5), (.int p6)] below meth c T93 _ 4 28 := X93
            obtain ⟨rfl, M93, e93⟩ := hQ93
            have N93 := Fr.app N92 M93
            refine Goes.on (fun t k => st93.trans k) ?_
            show Goes p e below QQ (T93.setTop (mkF m 185 #[iv p1, iv p2, iv p3, iv p4, iv p5, iv p6, iv 0, iv 2, iv g2, iv g3, iv ((p6 &&& (15 : Int32)) - (8 : Int32)), rv b62, iv (p5 &&& (2147483647 : Int32)), iv 1, .unset, .unset] [(.int (entF (0 : Int32) (2 : Int32)))]))
            refine G1 (XS.iconst X93.here hx rfl (hb hby at_185)) ?_
            refine G1 (XS.iload X93.here hx rfl (hb hby at_186) rfl) ?_
            show Goes p e below QQ (T93.setTop (mkF m 188 #[iv p1, iv p2, iv p3, iv p4, iv p5, iv p6, iv 0, iv 2, iv g2, iv g3, iv ((p6 &&& (15 : Int32)) - (8 : Int32)), rv b62, iv (p5 &&& (2147483647 : Int32)), iv 1, .unset, .unset] [(.int 2), (.int 0), (.int (entF (0 : Int32) (2 : Int32)))]))
            obtain ⟨_, _, ⟨T94, L94, k94, n94⟩, -, X94, ⟨Lc94, hQ94, l94, y94, z94⟩, st94⟩ := Jvm.LawKit.callS X93 hx (y := (⟨"com/example/bindery/bindery/PartIndexEntryAtPinLaw", "few", "(II)I"⟩ : MethodName)) hown (mvT hZ (wI hw 33 rfl)) (mvT hZ (wI hw 34 rfl)) (mvT hZ (wI hw 35 rfl)) (mvT hZ (wI hw 36 rfl)) (by decide) (backOf (W := 1) (rmFe l Z a0 hw [] (0 : Int32) (2 : Int32) T82.heap n0 (Nat.le_trans Z0 K89.1) ) hZ (wI hw 36 rfl) (wI hw 35 rfl) (by decide) (by decide)) (g := (mkF m 188 #[iv p1, iv p2, iv p3, iv p4, iv p5, iv p6, iv 0, iv 2, iv g2, iv g3, iv ((p6 &&& (15 : Int32)) - (8 : Int32)), rv b62, iv (p5 &&& (2147483647 : Int32)), iv 1, .unset, .unset] [(.int 2), (.int 0), (.int (entF (0 : Int32) (2 : Int32)))])) rfl (by rw [hml]; rfl) (argsL := [(.int 0), (.int 2)]) (rest := [(.int (entF (0 : Int32) (2 : Int32)))]) (lenOf pd_0 rfl) rfl (by show 2 * 0 + _ ≤ _; exact Nat.le_of_eq rfl) (hb hby at_188) (fun _ _ => ⟨rfl, e93, (by decide : 4 + 0 ≤ _), (by decide : 28 + 0 ≤ _)⟩)
            dsimp only [Pt.U, Pt.locs, Pt.cells, Pt.slots] at X94 l94 y94 z94 st94 hQ94
            have l94 := l94.symm; have y94 := y94.symm; have z94 := z94.symm; subst l94 y94 z94
            have X94 : Stand p l e room_1 s m #[(.int p1), (.int p2), (.int p3), (.int p4), (.int p5), (.int p6)] below meth c T94 _ 4 28 := X94
            obtain ⟨rfl, M94, e94⟩ := hQ94
            have N94 := Fr.app N93 M94
            refine Goes.on (fun t k => st94 _ k) ?_
            show Goes p e below QQ (T94.setTop (mkF m 191 #[iv p1, iv p2, iv p3, iv p4, iv p5, iv p6, iv 0, iv 2, iv g2, iv g3, iv ((p6 &&& (15 : Int32)) - (8 : Int32)), rv b62, iv (p5 &&& (2147483647 : Int32)), iv 1, .unset, .unset] [(.int (fewF (0 : Int32) (2 : Int32))), (.int (entF (0 : Int32) (2 : Int32)))]))
            refine G1 (XS.icmpNo X94.here hx rfl (hb hby at_191) rfl (teq rfl).2) ?_
            show Gs p e below QQ T94 m 194 #[iv p1, iv p2, iv p3, iv p4, iv p5, iv p6, iv 0, iv 2, iv g2, iv g3, iv ((p6 &&& (15 : Int32)) - (8 : Int32)), rv b62, iv (p5 &&& (2147483647 : Int32)), iv 1, .unset, .unset] []
            refine G1 (XS.aload X94.here hx rfl (hb hby at_194) rfl rfl) ?_
            refine G1 (XS.iload X94.here hx rfl (hb hby at_196) rfl) ?_
            show Goes p e below QQ (T94.setTop (mkF m 198 #[iv p1, iv p2, iv p3, iv p4, iv p5, iv p6, iv 0, iv 2, iv g2, iv g3, iv ((p6 &&& (15 : Int32)) - (8 : Int32)), rv b62, iv (p5 &&& (2147483647 : Int32)), iv 1, .unset, .unset] [(.int 2), (.ref b62)]))
            obtain ⟨cq95, kq95, q95a, q95b, q95c⟩ := isOf hZ e94 A62_83
            obtain ⟨_, _, ⟨T95, L95, k95, n95⟩, -, X95, ⟨Lc95, hQ95, l95, y95, z95⟩, st95⟩ := X94.virtualBack hx (y := (⟨"com/example/bindery/bindery/PartIndex", "entryAt", "(I)I"⟩ : MethodName)) (z := (⟨"com/example/bindery/bindery/PartIndex", "entryAt", "(I)I"⟩ : MethodName)) hown (mvT hZ (wI hw 24 rfl)) (mvT hZ (wI hw 25 rfl)) (notFace_of_selects (args := #[]) (mvT hZ (wI hw 27 rfl))) (mvT hZ (wI hw 27 rfl)) (mvT hZ (wI hw 26 rfl)) (by decide) (backOf (W := 0) (rmE0 l Z a0 hw [] b62 (2 : Int32) (2 : Int32) T82.heap n0 (Nat.le_trans Z0 K89.1) slots_a1 size_a1) hZ (wI hw 28 rfl) (wI hw 2 rfl) (by decide) (by decide)) q95a q95c (g := (mkF m 198 #[iv p1, iv p2, iv p3, iv p4, iv p5, iv p6, iv 0, iv 2, iv g2, iv g3, iv ((p6 &&& (15 : Int32)) - (8 : Int32)), rv b62, iv (p5 &&& (2147483647 : Int32)), iv 1, .unset, .unset] [(.int 2), (.ref b62)])) rfl (by rw [hml]; rfl) (Steps.refl _) (argsL := [(.int 2)]) (rest := []) (lenOf pd_1 rfl) rfl (by show 2 * 0 + _ ≤ _; exact Nat.le_of_eq rfl) (hb hby at_198) (fun _ _ => ⟨rfl, e94, (by decide : 4 + 0 ≤ _), (by decide : 28 + 0 ≤ _)⟩)
            dsimp only [Pt.U, Pt.locs, Pt.cells, Pt.slots] at X95 l95 y95 z95 st95 hQ95
            have l95 := l95.symm; have y95 := y95.symm; have z95 := z95.symm; subst l95 y95 z95
            have X95 : Stand p l e room_1 s m #[(.int p1), (.int p2), (.int p3), (.int p4), (.int p5), (.int p6)] below meth c T95 _ 4 28 := X95
            obtain ⟨rfl, M95, e95⟩ := hQ95
            have N95 := Fr.app N94 M95
            refine Goes.on (fun t k => st95.trans k) ?_
            show Goes p e below QQ (T95.setTop (mkF m 201 #[iv p1, iv p2, iv p3, iv p4, iv p5, iv p6, iv 0, iv 2, iv g2, iv g3, iv ((p6 &&& (15 : Int32)) - (8 : Int32)), rv b62, iv (p5 &&& (2147483647 : Int32)), iv 1, .unset, .unset] [(.int (entF (2 : Int32) (2 : Int32)))]))
            refine G1 (XS.iconst X95.here hx rfl (hb hby at_201)) ?_
            show Gs p e below QQ T95 m 202 #[iv p1, iv p2, iv p3, iv p4, iv p5, iv p6, iv 0, iv 2, iv g2, iv g3, iv ((p6 &&& (15 : Int32)) - (8 : Int32)), rv b62, iv (p5 &&& (2147483647 : Int32)), iv 1, .unset, .unset] [(.int (-1)), (.int (entF (2 : Int32) (2 : Int32)))]
            refine G1 (XS.icmpNo X95.here hx rfl (hb hby at_202) rfl (teq (by decide)).2) ?_
            show Gs p e below QQ T95 m 205 #[iv p1, iv p2, iv p3, iv p4, iv p5, iv p6, iv 0, iv 2, iv g2, iv g3, iv ((p6 &&& (15 : Int32)) - (8 : Int32)), rv b62, iv (p5 &&& (2147483647 : Int32)), iv 1, .unset, .unset] []
            refine G1 (XS.aload X95.here hx rfl (hb hby at_205) rfl rfl) ?_
            refine G1 (XS.iload X95.here hx rfl (hb hby at_207) rfl) ?_
            show Goes p e below QQ (T95.setTop (mkF m 209 #[iv p1, iv p2, iv p3, iv p4, iv p5, iv p6, iv 0, iv 2, iv g2, iv g3, iv ((p6 &&& (15 : Int32)) - (8 : Int32)), rv b62, iv (p5 &&& (2147483647 : Int32)), iv 1, .unset, .unset] [(.int 1), (.ref b62)]))
            obtain ⟨cq96, kq96, q96a, q96b, q96c⟩ := isOf hZ e95 A62_83
            obtain ⟨_, _, ⟨T96, L96, k96, n96⟩, -, X96, ⟨Lc96, hQ96, l96, y96, z96⟩, st96⟩ := X95.virtualBack hx (y := (⟨"com/example/bindery/bindery/PartIndex", "entryAt", "(I)I"⟩ : MethodName)) (z := (⟨"com/example/bindery/bindery/PartIndex", "entryAt", "(I)I"⟩ : MethodName)) hown (mvT hZ (wI hw 24 rfl)) (mvT hZ (wI hw 25 rfl)) (notFace_of_selects (args := #[]) (mvT hZ (wI hw 27 rfl))) (mvT hZ (wI hw 27 rfl)) (mvT hZ (wI hw 26 rfl)) (by decide) (backOf (W := 0) (rmE0 l Z a0 hw [] b62 (1 : Int32) (2 : Int32) T82.heap n0 (Nat.le_trans Z0 K89.1) slots_a1 size_a1) hZ (wI hw 28 rfl) (wI hw 2 rfl) (by decide) (by decide)) q96a q96c (g := (mkF m 209 #[iv p1, iv p2, iv p3, iv p4, iv p5, iv p6, iv 0, iv 2, iv g2, iv g3, iv ((p6 &&& (15 : Int32)) - (8 : Int32)), rv b62, iv (p5 &&& (2147483647 : Int32)), iv 1, .unset, .unset] [(.int 1), (.ref b62)])) rfl (by rw [hml]; rfl) (Steps.refl _) (argsL := [(.int 1)]) (rest := []) (lenOf pd_1 rfl) rfl (by show 2 * 0 + _ ≤ _; exact Nat.le_of_eq rfl) (hb hby at_209) (fun _ _ => ⟨rfl, e95, (by decide : 4 + 0 ≤ _), (by decide : 28 + 0 ≤ _)⟩)
            dsimp only [Pt.U, Pt.locs, Pt.cells, Pt.slots] at X96 l96 y96 z96 st96 hQ96
            have l96 := l96.symm; have y96 := y96.symm; have z96 := z96.symm; subst l96 y96 z96
            have X96 : Stand p l e room_1 s m #[(.int p1), (.int p2), (.int p3), (.int p4), (.int p5), (.int p6)] below meth c T96 _ 4 28 := X96
            obtain ⟨rfl, M96, e96⟩ := hQ96
            have N96 := Fr.app N95 M96
            refine Goes.on (fun t k => st96.trans k) ?_
            show Goes p e below QQ (T96.setTop (mkF m 212 #[iv p1, iv p2, iv p3, iv p4, iv p5, iv p6, iv 0, iv 2, iv g2, iv g3, iv ((p6 &&& (15 : Int32)) - (8 : Int32)), rv b62, iv (p5 &&& (2147483647 : Int32)), iv 1, .unset, .unset] [(.int (entF (1 : Int32) (2 : Int32)))]))
            refine G1 (XS.iload X96.here hx rfl (hb hby at_212) rfl) ?_
            refine G1 (XS.iload X96.here hx rfl (hb hby at_214) rfl) ?_
            show Goes p e below QQ (T96.setTop (mkF m 216 #[iv p1, iv p2, iv p3, iv p4, iv p5, iv p6, iv 0, iv 2, iv g2, iv g3, iv ((p6 &&& (15 : Int32)) - (8 : Int32)), rv b62, iv (p5 &&& (2147483647 : Int32)), iv 1, .unset, .unset] [(.int 2), (.int 1), (.int (entF (1 : Int32) (2 : Int32)))]))
            obtain ⟨_, _, ⟨T97, L97, k97, n97⟩, -, X97, ⟨Lc97, hQ97, l97, y97, z97⟩, st97⟩ := Jvm.LawKit.callS X96 hx (y := (⟨"com/example/bindery/bindery/PartIndexEntryAtPinLaw", "few", "(II)I"⟩ : MethodName)) hown (mvT hZ (wI hw 33 rfl)) (mvT hZ (wI hw 34 rfl)) (mvT hZ (wI hw 35 rfl)) (mvT hZ (wI hw 36 rfl)) (by decide) (backOf (W := 1) (rmFe l Z a0 hw [] (1 : Int32) (2 : Int32) T82.heap n0 (Nat.le_trans Z0 K89.1) ) hZ (wI hw 36 rfl) (wI hw 35 rfl) (by decide) (by decide)) (g := (mkF m 216 #[iv p1, iv p2, iv p3, iv p4, iv p5, iv p6, iv 0, iv 2, iv g2, iv g3, iv ((p6 &&& (15 : Int32)) - (8 : Int32)), rv b62, iv (p5 &&& (2147483647 : Int32)), iv 1, .unset, .unset] [(.int 2), (.int 1), (.int (entF (1 : Int32) (2 : Int32)))])) rfl (by rw [hml]; rfl) (argsL := [(.int 1), (.int 2)]) (rest := [(.int (entF (1 : Int32) (2 : Int32)))]) (lenOf pd_0 rfl) rfl (by show 2 * 0 + _ ≤ _; exact Nat.le_of_eq rfl) (hb hby at_216) (fun _ _ => ⟨rfl, e96, (by decide : 4 + 0 ≤ _), (by decide : 28 + 0 ≤ _)⟩)
            dsimp only [Pt.U, Pt.locs, Pt.cells, Pt.slots] at X97 l97 y97 z97 st97 hQ97
            have l97 := l97.symm; have y97 := y97.symm; have z97 := z97.symm; subst l97 y97 z97
            have X97 : Stand p l e room_1 s m #[(.int p1), (.int p2), (.int p3), (.int p4), (.int p5), (.int p6)] below meth c T97 _ 4 28 := X97
            obtain ⟨rfl, M97, e97⟩ := hQ97
            have N97 := Fr.app N96 M97
            refine Goes.on (fun t k => st97 _ k) ?_
            show Goes p e below QQ (T97.setTop (mkF m 219 #[iv p1, iv p2, iv p3, iv p4, iv p5, iv p6, iv 0, iv 2, iv g2, iv g3, iv ((p6 &&& (15 : Int32)) - (8 : Int32)), rv b62, iv (p5 &&& (2147483647 : Int32)), iv 1, .unset, .unset] [(.int (fewF (1 : Int32) (2 : Int32))), (.int (entF (1 : Int32) (2 : Int32)))]))
            refine G1 (XS.icmpNo X97.here hx rfl (hb hby at_219) rfl (teq rfl).2) ?_
            show Gs p e below QQ T97 m 222 #[iv p1, iv p2, iv p3, iv p4, iv p5, iv p6, iv 0, iv 2, iv g2, iv g3, iv ((p6 &&& (15 : Int32)) - (8 : Int32)), rv b62, iv (p5 &&& (2147483647 : Int32)), iv 1, .unset, .unset] []
            refine G1 (XS.iconst X97.here hx rfl (hb hby at_222)) ?_
            refine G1 (XS.goto X97.here hx rfl (pc0 := 223) (pc' := 227) rfl (hb hby at_223) (by decide) (by decide)) ?_
            show Goes p e below QQ (T97.setTop (mkF m 227 #[iv p1, iv p2, iv p3, iv p4, iv p5, iv p6, iv 0, iv 2, iv g2, iv g3, iv ((p6 &&& (15 : Int32)) - (8 : Int32)), rv b62, iv (p5 &&& (2147483647 : Int32)), iv 1, .unset, .unset] [(.int 1)]))
            exact Goes.rN X97 hx (t := .boolean) hret (by simp) hlk (hb hby at_227) hQQ ⟨rfl, N97⟩ (by decide) (by decide)
          show Goes p e below QQ (T82.setTop (mkF m 149 #[iv p1, iv p2, iv p3, iv p4, iv p5, iv p6, iv 0, iv 2, iv g2, iv g3, iv ((p6 &&& (15 : Int32)) - (8 : Int32)), rv b62, iv (p5 &&& (2147483647 : Int32)), .unset, .unset, .unset] [(.int 2)]))
          refine G1 (XS.ifNo X82.here hx rfl (hb hby at_149) rfl ((if0 _ _).trans (tlt (by decide)).2.2.2)) ?_
          show Gs p e below QQ T82 m 152 #[iv p1, iv p2, iv p3, iv p4, iv p5, iv p6, iv 0, iv 2, iv g2, iv g3, iv ((p6 &&& (15 : Int32)) - (8 : Int32)), rv b62, iv (p5 &&& (2147483647 : Int32)), .unset, .unset, .unset] []
          refine G1 (XS.iload X82.here hx rfl (hb hby at_152) rfl) ?_
          refine G1 (XS.iconst X82.here hx rfl (hb hby at_154)) ?_
          show Gs p e below QQ T82 m 155 #[iv p1, iv p2, iv p3, iv p4, iv p5, iv p6, iv 0, iv 2, iv g2, iv g3, iv ((p6 &&& (15 : Int32)) - (8 : Int32)), rv b62, iv (p5 &&& (2147483647 : Int32)), .unset, .unset, .unset] [(.int 1), (.int 2)]
          refine G1 (XS.isub X82.here hx rfl (hb hby at_155) rfl) ?_
          show Goes p e below QQ (T82.setTop (mkF m 156 #[iv p1, iv p2, iv p3, iv p4, iv p5, iv p6, iv 0, iv 2, iv g2, iv g3, iv ((p6 &&& (15 : Int32)) - (8 : Int32)), rv b62, iv (p5 &&& (2147483647 : Int32)), .unset, .unset, .unset] [(.int ((2 : Int32) - (1 : Int32)))]))
          rw [(by decide : ((2 : Int32) - (1 : Int32)) = (1 : Int32))]
          show Goes p e below QQ (T82.setTop (mkF m 156 #[iv p1, iv p2, iv p3, iv p4, iv p5, iv p6, iv 0, iv 2, iv g2, iv g3, iv ((p6 &&& (15 : Int32)) - (8 : Int32)), rv b62, iv (p5 &&& (2147483647 : Int32)), .unset, .unset, .unset] [(.int 1)]))
          refine G1 (XS.goto X82.here hx rfl (pc0 := 156) (pc' := 160) rfl (hb hby at_156) (by decide) (by decide)) ?_
          show Goes p e below QQ (T82.setTop (mkF m 160 #[iv p1, iv p2, iv p3, iv p4, iv p5, iv p6, iv 0, iv 2, iv g2, iv g3, iv ((p6 &&& (15 : Int32)) - (8 : Int32)), rv b62, iv (p5 &&& (2147483647 : Int32)), .unset, .unset, .unset] [(.int 1)]))
          exact J90 _ _ X82 rfl N82
        show Goes p e below QQ (TJ60.setTop (mkF m 38 #[iv p1, iv p2, iv p3, iv p4, iv p5, iv p6, iv 0, iv 2, iv (if (p1 &&& (8 : Int32)) = (0 : Int32) then p3 else p2), .unset, .unset, .unset, .unset, .unset, .unset, .unset] [(.int (p1 &&& (16 : Int32)))]))
        by_cases hb98 : (p1 &&& (16 : Int32)) = (0 : Int32)
        · refine G1 (XS.ifYes XJ60.here hx rfl (pc0 := 38) (pc' := 45) rfl (hb hby at_38) rfl ((if0 _ _).trans (teq hb98).1) (by decide) (by decide)) ?_
          show Gs p e below QQ TJ60 m 45 #[iv p1, iv p2, iv p3, iv p4, iv p5, iv p6, iv 0, iv 2, iv (if (p1 &&& (8 : Int32)) = (0 : Int32) then p3 else p2), .unset, .unset, .unset, .unset, .unset, .unset, .unset] []
          refine G1 (XS.iloadN XJ60.here hx rfl (hb hby at_45) rfl) ?_
          refine G1 (XS.bipush XJ60.here hx rfl (hb hby at_46)) ?_
          show Gs p e below QQ TJ60 m 48 #[iv p1, iv p2, iv p3, iv p4, iv p5, iv p6, iv 0, iv 2, iv (if (p1 &&& (8 : Int32)) = (0 : Int32) then p3 else p2), .unset, .unset, .unset, .unset, .unset, .unset, .unset] [(.int 32), (.int p1)]
          refine G1 (XS.iand XJ60.here hx rfl (hb hby at_48) rfl) ?_
          show Goes p e below QQ (TJ60.setTop (mkF m 49 #[iv p1, iv p2, iv p3, iv p4, iv p5, iv p6, iv 0, iv 2, iv (if (p1 &&& (8 : Int32)) = (0 : Int32) then p3 else p2), .unset, .unset, .unset, .unset, .unset, .unset, .unset] [(.int (p1 &&& (32 : Int32)))]))
          by_cases hb99 : (p1 &&& (32 : Int32)) = (0 : Int32)
          · refine G1 (XS.ifYes XJ60.here hx rfl (pc0 := 49) (pc' := 57) rfl (hb hby at_49) rfl ((if0 _ _).trans (teq hb99).1) (by decide) (by decide)) ?_
            show Gs p e below QQ TJ60 m 57 #[iv p1, iv p2, iv p3, iv p4, iv p5, iv p6, iv 0, iv 2, iv (if (p1 &&& (8 : Int32)) = (0 : Int32) then p3 else p2), .unset, .unset, .unset, .unset, .unset, .unset, .unset] []
            refine G1 (XS.iloadN XJ60.here hx rfl (hb hby at_57) rfl) ?_
            show Goes p e below QQ (TJ60.setTop (mkF m 58 #[iv p1, iv p2, iv p3, iv p4, iv p5, iv p6, iv 0, iv 2, iv (if (p1 &&& (8 : Int32)) = (0 : Int32) then p3 else p2), .unset, .unset, .unset, .unset, .unset, .unset, .unset] [(.int p4)]))
            rw [(((if_pos hb98).trans ((if_pos hb99).trans rfl)) : (if (p1 &&& (16 : Int32)) = (0 : Int32) then (if (p1 &&& (32 : Int32)) = (0 : Int32) then p4 else (if (p1 &&& (8 : Int32)) = (0 : Int32) then p3 else p2)) else p2) = p4)] at J61
            exact J61 _ _ XJ60 eJ60 NJ60
          · refine G1 (XS.ifNo XJ60.here hx rfl (hb hby at_49) rfl ((if0 _ _).trans (feq hb99).1)) ?_
            show Gs p e below QQ TJ60 m 52 #[iv p1, iv p2, iv p3, iv p4, iv p5, iv p6, iv 0, iv 2, iv (if (p1 &&& (8 : Int32)) = (0 : Int32) then p3 else p2), .unset, .unset, .unset, .unset, .unset, .unset, .unset] []
            refine G1 (XS.iload XJ60.here hx rfl (hb hby at_52) rfl) ?_
            refine G1 (XS.goto XJ60.here hx rfl (pc0 := 54) (pc' := 58) rfl (hb hby at_54) (by decide) (by decide)) ?_
            show Goes p e below QQ (TJ60.setTop (mkF m 58 #[iv p1, iv p2, iv p3, iv p4, iv p5, iv p6, iv 0, iv 2, iv (if (p1 &&& (8 : Int32)) = (0 : Int32) then p3 else p2), .unset, .unset, .unset, .unset, .unset, .unset, .unset] [(.int (if (p1 &&& (8 : Int32)) = (0 : Int32) then p3 else p2))]))
            rw [(((if_pos hb98).trans ((if_neg hb99).trans rfl)) : (if (p1 &&& (16 : Int32)) = (0 : Int32) then (if (p1 &&& (32 : Int32)) = (0 : Int32) then p4 else (if (p1 &&& (8 : Int32)) = (0 : Int32) then p3 else p2)) else p2) = (if (p1 &&& (8 : Int32)) = (0 : Int32) then p3 else p2))] at J61
            exact J61 _ _ XJ60 eJ60 NJ60
        · refine G1 (XS.ifNo XJ60.here hx rfl (hb hby at_38) rfl ((if0 _ _).trans (feq hb98).1)) ?_
          show Gs p e below QQ TJ60 m 41 #[iv p1, iv p2, iv p3, iv p4, iv p5, iv p6, iv 0, iv 2, iv (if (p1 &&& (8 : Int32)) = (0 : Int32) then p3 else p2), .unset, .unset, .unset, .unset, .unset, .unset, .unset] []
          refine G1 (XS.iloadN XJ60.here hx rfl (hb hby at_41) rfl) ?_
          refine G1 (XS.goto XJ60.here hx rfl (pc0 := 42) (pc' := 58) rfl (hb hby at_42) (by decide) (by decide)) ?_
          show Goes p e below QQ (TJ60.setTop (mkF m 58 #[iv p1, iv p2, iv p3, iv p4, iv p5, iv p6, iv 0, iv 2, iv (if (p1 &&& (8 : Int32)) = (0 : Int32) then p3 else p2), .unset, .unset, .unset, .unset, .unset, .unset, .unset] [(.int p2)]))
          rw [(((if_neg hb98).trans rfl) : (if (p1 &&& (16 : Int32)) = (0 : Int32) then (if (p1 &&& (32 : Int32)) = (0 : Int32) then p4 else (if (p1 &&& (8 : Int32)) = (0 : Int32) then p3 else p2)) else p2) = p2)] at J61
          exact J61 _ _ XJ60 eJ60 NJ60
      show Goes p e below QQ (s₁.setTop (mkF m 24 #[iv p1, iv p2, iv p3, iv p4, iv p5, iv p6, iv 0, iv 2, .unset, .unset, .unset, .unset, .unset, .unset, .unset, .unset] [(.int (p1 &&& (8 : Int32)))]))
      by_cases hb100 : (p1 &&& (8 : Int32)) = (0 : Int32)
      · refine G1 (XS.ifYes X0.here hx rfl (pc0 := 24) (pc' := 31) rfl (hb hby at_24) rfl ((if0 _ _).trans (teq hb100).1) (by decide) (by decide)) ?_
        show Gs p e below QQ s₁ m 31 #[iv p1, iv p2, iv p3, iv p4, iv p5, iv p6, iv 0, iv 2, .unset, .unset, .unset, .unset, .unset, .unset, .unset, .unset] []
        refine G1 (XS.iloadN X0.here hx rfl (hb hby at_31) rfl) ?_
        show Goes p e below QQ (s₁.setTop (mkF m 32 #[iv p1, iv p2, iv p3, iv p4, iv p5, iv p6, iv 0, iv 2, .unset, .unset, .unset, .unset, .unset, .unset, .unset, .unset] [(.int p3)]))
        rw [(((if_pos hb100).trans rfl) : (if (p1 &&& (8 : Int32)) = (0 : Int32) then p3 else p2) = p3)] at J60
        exact J60 _ _ X0 e0 N0
      · refine G1 (XS.ifNo X0.here hx rfl (hb hby at_24) rfl ((if0 _ _).trans (feq hb100).1)) ?_
        show Gs p e below QQ s₁ m 27 #[iv p1, iv p2, iv p3, iv p4, iv p5, iv p6, iv 0, iv 2, .unset, .unset, .unset, .unset, .unset, .unset, .unset, .unset] []
        refine G1 (XS.iloadN X0.here hx rfl (hb hby at_27) rfl) ?_
        refine G1 (XS.goto X0.here hx rfl (pc0 := 28) (pc' := 32) rfl (hb hby at_28) (by decide) (by decide)) ?_
        show Goes p e below QQ (s₁.setTop (mkF m 32 #[iv p1, iv p2, iv p3, iv p4, iv p5, iv p6, iv 0, iv 2, .unset, .unset, .unset, .unset, .unset, .unset, .unset, .unset] [(.int p2)]))
        rw [(((if_neg hb100).trans rfl) : (if (p1 &&& (8 : Int32)) = (0 : Int32) then p3 else p2) = p2)] at J60
        exact J60 _ _ X0 e0 N0
    · rw [hk]
      show Goes p e below QQ (s₁.setTop (mkF m 20 #[iv p1, iv p2, iv p3, iv p4, iv p5, iv p6, iv 0, iv 3, .unset, .unset, .unset, .unset, .unset, .unset, .unset, .unset] []))
      refine G1 (XS.iloadN X0.here hx rfl (hb hby at_20) rfl) ?_
      refine G1 (XS.bipush X0.here hx rfl (hb hby at_21)) ?_
      show Gs p e below QQ s₁ m 23 #[iv p1, iv p2, iv p3, iv p4, iv p5, iv p6, iv 0, iv 3, .unset, .unset, .unset, .unset, .unset, .unset, .unset, .unset] [(.int 8), (.int p1)]
      refine G1 (XS.iand X0.here hx rfl (hb hby at_23) rfl) ?_
      show Goes p e below QQ (s₁.setTop (mkF m 24 #[iv p1, iv p2, iv p3, iv p4, iv p5, iv p6, iv 0, iv 3, .unset, .unset, .unset, .unset, .unset, .unset, .unset, .unset] [(.int (p1 &&& (8 : Int32)))]))
      have J101 : ∀ (TJ101 : State) (lJ101 : List Loc), Stand p l e room_1 s m #[(.int p1), (.int p2), (.int p3), (.int p4), (.int p5), (.int p6)] below meth c TJ101 lJ101 0 0 → TJ101.heap = h0 → Fr n0 lJ101 → Goes p e below QQ (TJ101.setTop (mkF m 32 #[iv p1, iv p2, iv p3, iv p4, iv p5, iv p6, iv 0, iv 3, .unset, .unset, .unset, .unset, .unset, .unset, .unset, .unset] [(.int (if (p1 &&& (8 : Int32)) = (0 : Int32) then p3 else p2))])) := by
        intro TJ101 lJ101 XJ101 eJ101 NJ101
        refine G1 (XS.istore XJ101.here hx rfl (hb hby at_32) rfl (l' := #[iv p1, iv p2, iv p3, iv p4, iv p5, iv p6, iv 0, iv 3, iv (if (p1 &&& (8 : Int32)) = (0 : Int32) then p3 else p2), .unset, .unset, .unset, .unset, .unset, .unset, .unset]) rfl) ?_
        refine G1 (XS.iloadN XJ101.here hx rfl (hb hby at_34) rfl) ?_
        refine G1 (XS.bipush XJ101.here hx rfl (hb hby at_35)) ?_
        show Gs p e below QQ TJ101 m 37 #[iv p1, iv p2, iv p3, iv p4, iv p5, iv p6, iv 0, iv 3, iv (if (p1 &&& (8 : Int32)) = (0 : Int32) then p3 else p2), .unset, .unset, .unset, .unset, .unset, .unset, .unset] [(.int 16), (.int p1)]
        refine G1 (XS.iand XJ101.here hx rfl (hb hby at_37) rfl) ?_
        show Goes p e below QQ (TJ101.setTop (mkF m 38 #[iv p1, iv p2, iv p3, iv p4, iv p5, iv p6, iv 0, iv 3, iv (if (p1 &&& (8 : Int32)) = (0 : Int32) then p3 else p2), .unset, .unset, .unset, .unset, .unset, .unset, .unset] [(.int (p1 &&& (16 : Int32)))]))
        have J102 : ∀ (TJ102 : State) (lJ102 : List Loc), Stand p l e room_1 s m #[(.int p1), (.int p2), (.int p3), (.int p4), (.int p5), (.int p6)] below meth c TJ102 lJ102 0 0 → TJ102.heap = h0 → Fr n0 lJ102 → Goes p e below QQ (TJ102.setTop (mkF m 58 #[iv p1, iv p2, iv p3, iv p4, iv p5, iv p6, iv 0, iv 3, iv (if (p1 &&& (8 : Int32)) = (0 : Int32) then p3 else p2), .unset, .unset, .unset, .unset, .unset, .unset, .unset] [(.int (if (p1 &&& (16 : Int32)) = (0 : Int32) then (if (p1 &&& (32 : Int32)) = (0 : Int32) then p4 else (if (p1 &&& (8 : Int32)) = (0 : Int32) then p3 else p2)) else p2))])) := by
          intro TJ102 lJ102 XJ102 eJ102 NJ102
          refine G1 (XS.istore XJ102.here hx rfl (hb hby at_58) rfl (l' := #[iv p1, iv p2, iv p3, iv p4, iv p5, iv p6, iv 0, iv 3, iv (if (p1 &&& (8 : Int32)) = (0 : Int32) then p3 else p2), iv (if (p1 &&& (16 : Int32)) = (0 : Int32) then (if (p1 &&& (32 : Int32)) = (0 : Int32) then p4 else (if (p1 &&& (8 : Int32)) = (0 : Int32) then p3 else p2)) else p2), .unset, .unset, .unset, .unset, .unset, .unset]) rfl) ?_
          show Goes p e below QQ (TJ102.setTop (mkF m 60 #[iv p1, iv p2, iv p3, iv p4, iv p5, iv p6, iv 0, iv 3, iv (if (p1 &&& (8 : Int32)) = (0 : Int32) then p3 else p2), iv (if (p1 &&& (16 : Int32)) = (0 : Int32) then (if (p1 &&& (32 : Int32)) = (0 : Int32) then p4 else (if (p1 &&& (8 : Int32)) = (0 : Int32) then p3 else p2)) else p2), .unset, .unset, .unset, .unset, .unset, .unset] []))
          generalize (if (p1 &&& (16 : Int32)) = (0 : Int32) then (if (p1 &&& (32 : Int32)) = (0 : Int32) then p4 else (if (p1 &&& (8 : Int32)) = (0 : Int32) then p3 else p2)) else p2) = g3
          generalize (if (p1 &&& (8 : Int32)) = (0 : Int32) then p3 else p2) = g2
          show Goes p e below QQ (TJ102.setTop (mkF m 60 #[iv p1, iv p2, iv p3, iv p4, iv p5, iv p6, iv 0, iv 3, iv g2, iv g3, .unset, .unset, .unset, .unset, .unset, .unset] []))
          refine G1 (XS.iload XJ102.here hx rfl (hb hby at_60) rfl) ?_
          show Gs p e below QQ TJ102 m 62 #[iv p1, iv p2, iv p3, iv p4, iv p5, iv p6, iv 0, iv 3, iv g2, iv g3, .unset, .unset, .unset, .unset, .unset, .unset] [(.int 0)]
          refine G1 (XS.ifYes XJ102.here hx rfl (pc0 := 62) (pc' := 76) rfl (hb hby at_62) rfl ((if0 _ _).trans (teq (by decide)).1) (by decide) (by decide)) ?_
          show Gs p e below QQ TJ102 m 76 #[iv p1, iv p2, iv p3, iv p4, iv p5, iv p6, iv 0, iv 3, iv g2, iv g3, .unset, .unset, .unset, .unset, .unset, .unset] []
          refine G1 (XS.iload XJ102.here hx rfl (hb hby at_76) rfl) ?_
          refine G1 (XS.bipush XJ102.here hx rfl (hb hby at_78)) ?_
          show Gs p e below QQ TJ102 m 80 #[iv p1, iv p2, iv p3, iv p4, iv p5, iv p6, iv 0, iv 3, iv g2, iv g3, .unset, .unset, .unset, .unset, .unset, .unset] [(.int 15), (.int p6)]
          refine G1 (XS.iand XJ102.here hx rfl (hb hby at_80) rfl) ?_
          show Gs p e below QQ TJ102 m 81 #[iv p1, iv p2, iv p3, iv p4, iv p5, iv p6, iv 0, iv 3, iv g2, iv g3, .unset, .unset, .unset, .unset, .unset, .unset] [(.int (p6 &&& (15 : Int32)))]
          refine G1 (XS.bipush XJ102.here hx rfl (hb hby at_81)) ?_
          show Gs p e below QQ TJ102 m 83 #[iv p1, iv p2, iv p3, iv p4, iv p5, iv p6, iv 0, iv 3, iv g2, iv g3, .unset, .unset, .unset, .unset, .unset, .unset] [(.int 8), (.int (p6 &&& (15 : Int32)))]
          refine G1 (XS.isub XJ102.here hx rfl (hb hby at_83) rfl) ?_
          show Gs p e below QQ TJ102 m 84 #[iv p1, iv p2, iv p3, iv p4, iv p5, iv p6, iv 0, iv 3, iv g2, iv g3, .unset, .unset, .unset, .unset, .unset, .unset] [(.int ((p6 &&& (15 : Int32)) - (8 : Int32)))]
          refine G1 (XS.istore XJ102.here hx rfl (hb hby at_84) rfl (l' := #[iv p1, iv p2, iv p3, iv p4, iv p5, iv p6, iv 0, iv 3, iv g2, iv g3, iv ((p6 &&& (15 : Int32)) - (8 : Int32)), .unset, .unset, .unset, .unset, .unset]) rfl) ?_
          show Goes p e below QQ (TJ102.setTop (mkF m 86 #[iv p1, iv p2, iv p3, iv p4, iv p5, iv p6, iv 0, iv 3, iv g2, iv g3, iv ((p6 &&& (15 : Int32)) - (8 : Int32)), .unset, .unset, .unset, .unset, .unset] []))
          obtain ⟨T103, h103, X103, e103, E103, A103, D103, -, st103⟩ := newO XJ102 hx hZ hown (wI hw 0 rfl) (wI hw 1 rfl) (wI hw 2 rfl) eJ102 (g := (mkF m 86 #[iv p1, iv p2, iv p3, iv p4, iv p5, iv p6, iv 0, iv 3, iv g2, iv g3, iv ((p6 &&& (15 : Int32)) - (8 : Int32)), .unset, .unset, .unset, .unset, .unset] [])) rfl (hb hby at_86) (by decide) (by decide)
          obtain ⟨b103, g103⟩ : ∃ z, z = h0.size := ⟨_, rfl⟩
          rw [← g103] at A103 D103 st103
          have sz_b103 : h0.size ≤ b103 := Nat.le_trans K0.1 (Nat.le_of_eq g103.symm)
          have g_b103 : n0 ≤ b103 := Nat.le_trans Z0 sz_b103
          have K103 := K0.ext E103
          have X103 : Stand p l e room_1 s m #[(.int p1), (.int p2), (.int p3), (.int p4), (.int p5), (.int p6)] below meth c T103 _ 1 4 := X103
          have F_104 : Fld Z h103 b103 "com/example/bindery/bindery/PartIndex" "hashes" "[I" .null := D103 (Or.inl (wI hw 22 rfl)) (ty := (.array .int)) (by decide)
          have F_105 : Fld Z h103 b103 "com/example/bindery/bindery/PartIndex" "slots" "[I" .null := D103 (Or.inl (wI hw 30 rfl)) (ty := (.array .int)) (by decide)
          have F_106 : Fld Z h103 b103 "com/example/bindery/bindery/PartIndex" "size" "I" (.int 0) := D103 (Or.inl (wI hw 32 rfl)) (ty := .int) (by decide)
          have F_107 : Fld Z h103 b103 "com/example/bindery/bindery/PartIndex" "shift" "I" (.int 0) := D103 (Or.inl (wI hw 61 rfl)) (ty := .int) (by decide)
          refine Goes.on (fun t k => st103 t k) ?_
          show Goes p e below QQ (T103.setTop (mkF m 89 #[iv p1, iv p2, iv p3, iv p4, iv p5, iv p6, iv 0, iv 3, iv g2, iv g3, iv ((p6 &&& (15 : Int32)) - (8 : Int32)), .unset, .unset, .unset, .unset, .unset] [(.ref b103)]))
          refine G1 (XS.dup X103.here hx rfl (hb hby at_89) rfl rfl) ?_
          refine G1 (XS.iload X103.here hx rfl (hb hby at_90) rfl) ?_
          show Goes p e below QQ (T103.setTop (mkF m 92 #[iv p1, iv p2, iv p3, iv p4, iv p5, iv p6, iv 0, iv 3, iv g2, iv g3, iv ((p6 &&& (15 : Int32)) - (8 : Int32)), .unset, .unset, .unset, .unset, .unset] [(.int ((p6 &&& (15 : Int32)) - (8 : Int32))), (.ref b103), (.ref b103)]))
          obtain ⟨nn, hr, hn⟩ := own_room0 p6
          obtain ⟨_, _, ⟨T108, L108, k108, n108⟩, -, X108, ⟨Lc108, hQ108, l108, y108, z108⟩, st108⟩ := X103.specialBack hx (y := (⟨"com/example/bindery/bindery/PartIndex", "<init>", "(I)V"⟩ : MethodName)) rfl hown (mvT hZ (wI hw 3 rfl)) (mvT hZ (wI hw 4 rfl)) (mvT hZ (wI hw 5 rfl)) (by decide) (backOf (W := 1) (rmIn0 l Z a0 hw [] b103 ((p6 &&& (15 : Int32)) - (8 : Int32)) nn h103 n0 (Nat.le_trans Z0 K103.1) A103 F_104 F_105 F_107 F_106 g_b103 hr hn) hZ (wI hw 5 rfl) (wI hw 2 rfl) (by decide) (by decide)) (g := (mkF m 92 #[iv p1, iv p2, iv p3, iv p4, iv p5, iv p6, iv 0, iv 3, iv g2, iv g3, iv ((p6 &&& (15 : Int32)) - (8 : Int32)), .unset, .unset, .unset, .unset, .unset] [(.int ((p6 &&& (15 : Int32)) - (8 : Int32))), (.ref b103), (.ref b103)])) rfl (by rw [hml]; rfl) (Steps.refl _) (a := b103) (argsL := [(.int ((p6 &&& (15 : Int32)) - (8 : Int32)))]) (rest := [(.ref b103)]) (lenOf pd_2 rfl) rfl (by show 2 * 0 + _ ≤ _; exact Nat.le_of_eq rfl) (hb hby at_92) (fun _ _ => ⟨rfl, e103, (by decide : 1 + 1 ≤ _), (by decide : 4 + 16 ≤ _)⟩)
          dsimp only [Pt.U, Pt.locs, Pt.cells, Pt.slots] at X108 l108 y108 z108 st108 hQ108
          have l108 := l108.symm; have y108 := y108.symm; have z108 := z108.symm; subst l108 y108 z108
          have X108 : Stand p l e room_1 s m #[(.int p1), (.int p2), (.int p3), (.int p4), (.int p5), (.int p6)] below meth c T108 _ 2 20 := X108
          obtain ⟨bh0, kh0, rfl, M108, Kc, szh, ⟨hashes_c, slots_c, shift_c, size_c⟩, Vh0⟩ := hQ108
          have sz_bh0 : h0.size ≤ bh0 := Nat.le_trans K103.1 szh
          have g_bh0 : n0 ≤ bh0 := Nat.le_trans Z0 sz_bh0
          have ne_b103_bh0 : b103 ≠ bh0 := Nat.ne_of_lt (Nat.lt_of_lt_of_le A103.lt szh)
          have N108 := Fr.app NJ102 M108
          refine Goes.on (fun t k => st108.trans k) ?_
          have A103_109 := A103.keep Kc
          have K114 := K103.trans Kc (allS (Or.inr sz_b103) all0)
          show Goes p e below QQ (T108.setTop (mkF m 95 #[iv p1, iv p2, iv p3, iv p4, iv p5, iv p6, iv 0, iv 3, iv g2, iv g3, iv ((p6 &&& (15 : Int32)) - (8 : Int32)), .unset, .unset, .unset, .unset, .unset] [(.ref b103)]))
          refine G1 (XS.astore X108.here hx rfl (hb hby at_95) rfl rfl (l' := #[iv p1, iv p2, iv p3, iv p4, iv p5, iv p6, iv 0, iv 3, iv g2, iv g3, iv ((p6 &&& (15 : Int32)) - (8 : Int32)), rv b103, .unset, .unset, .unset, .unset]) rfl) ?_
          refine G1 (XS.iload X108.here hx rfl (hb hby at_97) rfl) ?_
          refine G1 (XS.iconst X108.here hx rfl (hb hby at_99)) ?_
          show Gs p e below QQ T108 m 100 #[iv p1, iv p2, iv p3, iv p4, iv p5, iv p6, iv 0, iv 3, iv g2, iv g3, iv ((p6 &&& (15 : Int32)) - (8 : Int32)), rv b103, .unset, .unset, .unset, .unset] [(.int 1), (.int 3)]
          refine G1 (XS.icmpNo X108.here hx rfl (hb hby at_100) rfl (flt (by decide)).1) ?_
          show Gs p e below QQ T108 m 103 #[iv p1, iv p2, iv p3, iv p4, iv p5, iv p6, iv 0, iv 3, iv g2, iv g3, iv ((p6 &&& (15 : Int32)) - (8 : Int32)), rv b103, .unset, .unset, .unset, .unset] []
          refine G1 (XS.aload X108.here hx rfl (hb hby at_103) rfl rfl) ?_
          refine G1 (XS.iloadN X108.here hx rfl (hb hby at_105) rfl) ?_
          show Goes p e below QQ (T108.setTop (mkF m 106 #[iv p1, iv p2, iv p3, iv p4, iv p5, iv p6, iv 0, iv 3, iv g2, iv g3, iv ((p6 &&& (15 : Int32)) - (8 : Int32)), rv b103, .unset, .unset, .unset, .unset] [(.int p2), (.ref b103)]))
          obtain ⟨cq115, kq115, q115a, q115b, q115c⟩ := isOf hZ rfl A103_109
          obtain ⟨_, _, ⟨T115, L115, k115, n115⟩, -, X115, ⟨Lc115, hQ115, l115, y115, z115⟩, st115⟩ := X108.virtualBack hx (y := (⟨"com/example/bindery/bindery/PartIndex", "add", "(I)V"⟩ : MethodName)) (z := (⟨"com/example/bindery/bindery/PartIndex", "add", "(I)V"⟩ : MethodName)) hown (mvT hZ (wI hw 37 rfl)) (mvT hZ (wI hw 38 rfl)) (notFace_of_selects (args := #[]) (mvT hZ (wI hw 40 rfl))) (mvT hZ (wI hw 40 rfl)) (mvT hZ (wI hw 39 rfl)) (by decide) (backOf (W := 0) (rmA0_0 l Z a0 hw [] b103 bh0 p2 kh0 nn (0 : Int32) (0 : Int32) (0 : Int32) (0 : Int32) T108.heap n0 (Nat.le_trans Z0 K114.1) A103_109 hashes_c slots_c shift_c size_c Vh0 g_b103 g_bh0 ne_b103_bh0 (own_ge0 nn hn)) hZ (wI hw 41 rfl) (wI hw 2 rfl) (by decide) (by decide)) q115a q115c (g := (mkF m 106 #[iv p1, iv p2, iv p3, iv p4, iv p5, iv p6, iv 0, iv 3, iv g2, iv g3, iv ((p6 &&& (15 : Int32)) - (8 : Int32)), rv b103, .unset, .unset, .unset, .unset] [(.int p2), (.ref b103)])) rfl (by rw [hml]; rfl) (Steps.refl _) (argsL := [(.int p2)]) (rest := []) (lenOf pd_2 rfl) rfl (by show 2 * 0 + _ ≤ _; exact Nat.le_of_eq rfl) (hb hby at_106) (fun _ _ => ⟨rfl, rfl, (by decide : 2 + 1 ≤ _), (by decide : 20 + 4 ≤ _)⟩)
          dsimp only [Pt.U, Pt.locs, Pt.cells, Pt.slots] at X115 l115 y115 z115 st115 hQ115
          have l115 := l115.symm; have y115 := y115.symm; have z115 := z115.symm; subst l115 y115 z115
          have X115 : Stand p l e room_1 s m #[(.int p1), (.int p2), (.int p3), (.int p4), (.int p5), (.int p6)] below meth c T115 _ 3 24 := X115
          obtain ⟨bh1, kh1, nn1, y0a0, y1a0, y2a0, rfl, M115, Kca0, g_bh1, od1, nea0, hNa0, ⟨hashes_a0, slots_a0, shift_a0, size_a0⟩, Vha0⟩ := hQ115
          have N115 := Fr.app N108 M115
          refine Goes.on (fun t k => st115.trans k) ?_
          have A103_116 := A103_109.keep Kca0
          have K122 := K114.trans Kca0 (allS (Or.inr sz_b103) (allS (Or.inr sz_bh0) all0))
          show Goes p e below QQ (T115.setTop (mkF m 109 #[iv p1, iv p2, iv p3, iv p4, iv p5, iv p6, iv 0, iv 3, iv g2, iv g3, iv ((p6 &&& (15 : Int32)) - (8 : Int32)), rv b103, .unset, .unset, .unset, .unset] []))
          have sz_bh1 : h0.size ≤ bh1 := od1.elim (fun z => Nat.le_trans sz_bh0 (Nat.le_of_eq z.symm)) (fun z => Nat.le_trans K114.1 z)
          refine G1 (XS.iload X115.here hx rfl (hb hby at_109) rfl) ?_
          refine G1 (XS.iconst X115.here hx rfl (hb hby at_111)) ?_
          show Gs p e below QQ T115 m 112 #[iv p1, iv p2, iv p3, iv p4, iv p5, iv p6, iv 0, iv 3, iv g2, iv g3, iv ((p6 &&& (15 : Int32)) - (8 : Int32)), rv b103, .unset, .unset, .unset, .unset] [(.int 2), (.int 3)]
          refine G1 (XS.icmpNo X115.here hx rfl (hb hby at_112) rfl (flt (by decide)).1) ?_
          show Gs p e below QQ T115 m 115 #[iv p1, iv p2, iv p3, iv p4, iv p5, iv p6, iv 0, iv 3, iv g2, iv g3, iv ((p6 &&& (15 : Int32)) - (8 : Int32)), rv b103, .unset, .unset, .unset, .unset] []
          refine G1 (XS.aload X115.here hx rfl (hb hby at_115) rfl rfl) ?_
          refine G1 (XS.iload X115.here hx rfl (hb hby at_117) rfl) ?_
          show Goes p e below QQ (T115.setTop (mkF m 119 #[iv p1, iv p2, iv p3, iv p4, iv p5, iv p6, iv 0, iv 3, iv g2, iv g3, iv ((p6 &&& (15 : Int32)) - (8 : Int32)), rv b103, .unset, .unset, .unset, .unset] [(.int g2), (.ref b103)]))
          obtain ⟨cq123, kq123, q123a, q123b, q123c⟩ := isOf hZ rfl A103_116
          obtain ⟨_, _, ⟨T123, L123, k123, n123⟩, -, X123, ⟨Lc123, hQ123, l123, y123, z123⟩, st123⟩ := X115.virtualBack hx (y := (⟨"com/example/bindery/bindery/PartIndex", "add", "(I)V"⟩ : MethodName)) (z := (⟨"com/example/bindery/bindery/PartIndex", "add", "(I)V"⟩ : MethodName)) hown (mvT hZ (wI hw 37 rfl)) (mvT hZ (wI hw 38 rfl)) (notFace_of_selects (args := #[]) (mvT hZ (wI hw 40 rfl))) (mvT hZ (wI hw 40 rfl)) (mvT hZ (wI hw 39 rfl)) (by decide) (backOf (W := 0) (rmA0_1 l Z a0 hw [] b103 bh1 g2 kh1 nn1 (0 : Int32) y0a0 y1a0 y2a0 T115.heap n0 (Nat.le_trans Z0 K122.1) A103_116 hashes_a0 slots_a0 shift_a0 size_a0 Vha0 g_b103 g_bh1 nea0 hNa0) hZ (wI hw 41 rfl) (wI hw 2 rfl) (by decide) (by decide)) q123a q123c (g := (mkF m 119 #[iv p1, iv p2, iv p3, iv p4, iv p5, iv p6, iv 0, iv 3, iv g2, iv g3, iv ((p6 &&& (15 : Int32)) - (8 : Int32)), rv b103, .unset, .unset, .unset, .unset] [(.int g2), (.ref b103)])) rfl (by rw [hml]; rfl) (Steps.refl _) (argsL := [(.int g2)]) (rest := []) (lenOf pd_2 rfl) rfl (by show 2 * 0 + _ ≤ _; exact Nat.le_of_eq rfl) (hb hby at_119) (fun _ _ => ⟨rfl, rfl, (by decide : 3 + 1 ≤ _), (by decide : 24 + 4 ≤ _)⟩)
          dsimp only [Pt.U, Pt.locs, Pt.cells, Pt.slots] at X123 l123 y123 z123 st123 hQ123
          have l123 := l123.symm; have y123 := y123.symm; have z123 := z123.symm; subst l123 y123 z123
          have X123 : Stand p l e room_1 s m #[(.int p1), (.int p2), (.int p3), (.int p4), (.int p5), (.int p6)] below meth c T123 _ 4 28 := X123
          obtain ⟨bh2, kh2, nn2, y0a1, y1a1, y2a1, rfl, M123, Kca1, g_bh2, od2, nea1, hNa1, ⟨hashes_a1, slots_a1, shift_a1, size_a1⟩, Vha1⟩ := hQ123
          have N123 := Fr.app N115 M123
          refine Goes.on (fun t k => st123.trans k) ?_
          have A103_124 := A103_116.keep Kca1
          have K130 := K122.trans Kca1 (allS (Or.inr sz_b103) (allS (Or.inr sz_bh1) all0))
          show Goes p e below QQ (T123.setTop (mkF m 122 #[iv p1, iv p2, iv p3, iv p4, iv p5, iv p6, iv 0, iv 3, iv g2, iv g3, iv ((p6 &&& (15 : Int32)) - (8 : Int32)), rv b103, .unset, .unset, .unset, .unset] []))
          have sz_bh2 : h0.size ≤ bh2 := od2.elim (fun z => Nat.le_trans sz_bh1 (Nat.le_of_eq z.symm)) (fun z => Nat.le_trans K122.1 z)
          refine G1 (XS.iload X123.here hx rfl (hb hby at_122) rfl) ?_
          refine G1 (XS.iconst X123.here hx rfl (hb hby at_124)) ?_
          show Gs p e below QQ T123 m 125 #[iv p1, iv p2, iv p3, iv p4, iv p5, iv p6, iv 0, iv 3, iv g2, iv g3, iv ((p6 &&& (15 : Int32)) - (8 : Int32)), rv b103, .unset, .unset, .unset, .unset] [(.int 3), (.int 3)]
          refine G1 (XS.icmpNo X123.here hx rfl (hb hby at_125) rfl (flt (by decide)).1) ?_
          show Gs p e below QQ T123 m 128 #[iv p1, iv p2, iv p3, iv p4, iv p5, iv p6, iv 0, iv 3, iv g2, iv g3, iv ((p6 &&& (15 : Int32)) - (8 : Int32)), rv b103, .unset, .unset, .unset, .unset] []
          refine G1 (XS.aload X123.here hx rfl (hb hby at_128) rfl rfl) ?_
          refine G1 (XS.iload X123.here hx rfl (hb hby at_130) rfl) ?_
          show Goes p e below QQ (T123.setTop (mkF m 132 #[iv p1, iv p2, iv p3, iv p4, iv p5, iv p6, iv 0, iv 3, iv g2, iv g3, iv ((p6 &&& (15 : Int32)) - (8 : Int32)), rv b103, .unset, .unset, .unset, .unset] [(.int g3), (.ref b103)]))
          obtain ⟨cq131, kq131, q131a, q131b, q131c⟩ := isOf hZ rfl A103_124
          obtain ⟨_, _, ⟨T131, L131, k131, n131⟩, -, X131, ⟨Lc131, hQ131, l131, y131, z131⟩, st131⟩ := X123.virtualBack hx (y := (⟨"com/example/bindery/bindery/PartIndex", "add", "(I)V"⟩ : MethodName)) (z := (⟨"com/example/bindery/bindery/PartIndex", "add", "(I)V"⟩ : MethodName)) hown (mvT hZ (wI hw 37 rfl)) (mvT hZ (wI hw 38 rfl)) (notFace_of_selects (args := #[]) (mvT hZ (wI hw 40 rfl))) (mvT hZ (wI hw 40 rfl)) (mvT hZ (wI hw 39 rfl)) (by decide) (backOf (W := 0) (rmA0_2 l Z a0 hw [] b103 bh2 g3 kh2 nn2 (0 : Int32) y0a1 y1a1 y2a1 T123.heap n0 (Nat.le_trans Z0 K130.1) A103_124 hashes_a1 slots_a1 shift_a1 size_a1 Vha1 g_b103 g_bh2 nea1 hNa1) hZ (wI hw 41 rfl) (wI hw 2 rfl) (by decide) (by decide)) q131a q131c (g := (mkF m 132 #[iv p1, iv p2, iv p3, iv p4, iv p5, iv p6, iv 0, iv 3, iv g2, iv g3, iv ((p6 &&& (15 : Int32)) - (8 : Int32)), rv b103, .unset, .unset, .unset, .unset] [(.int g3), (.ref b103)])) rfl (by rw [hml]; rfl) (Steps.refl _) (argsL := [(.int g3)]) (rest := []) (lenOf pd_2 rfl) rfl (by show 2 * 0 + _ ≤ _; exact Nat.le_of_eq rfl) (hb hby at_132) (fun _ _ => ⟨rfl, rfl, (by decide : 4 + 1 ≤ _), (by decide : 28 + 4 ≤ _)⟩)
          dsimp only [Pt.U, Pt.locs, Pt.cells, Pt.slots] at X131 l131 y131 z131 st131 hQ131
          have l131 := l131.symm; have y131 := y131.symm; have z131 := z131.symm; subst l131 y131 z131
          have X131 : Stand p l e room_1 s m #[(.int p1), (.int p2), (.int p3), (.int p4), (.int p5), (.int p6)] below meth c T131 _ 5 32 := X131
          obtain ⟨bh3, kh3, nn3, y0a2, y1a2, y2a2, rfl, M131, Kca2, g_bh3, od3, nea2, hNa2, ⟨hashes_a2, slots_a2, shift_a2, size_a2⟩, Vha2⟩ := hQ131
          have N131 := Fr.app N123 M131
          refine Goes.on (fun t k => st131.trans k) ?_
          have A103_132 := A103_124.keep Kca2
          have K138 := K130.trans Kca2 (allS (Or.inr sz_b103) (allS (Or.inr sz_bh2) all0))
          show Goes p e below QQ (T131.setTop (mkF m 135 #[iv p1, iv p2, iv p3, iv p4, iv p5, iv p6, iv 0, iv 3, iv g2, iv g3, iv ((p6 &&& (15 : Int32)) - (8 : Int32)), rv b103, .unset, .unset, .unset, .unset] []))
          have sz_bh3 : h0.size ≤ bh3 := od3.elim (fun z => Nat.le_trans sz_bh2 (Nat.le_of_eq z.symm)) (fun z => Nat.le_trans K130.1 z)
          refine G1 (XS.iload X131.here hx rfl (hb hby at_135) rfl) ?_
          show Gs p e below QQ T131 m 137 #[iv p1, iv p2, iv p3, iv p4, iv p5, iv p6, iv 0, iv 3, iv g2, iv g3, iv ((p6 &&& (15 : Int32)) - (8 : Int32)), rv b103, .unset, .unset, .unset, .unset] [(.int 0)]
          refine G1 (XS.ifNo X131.here hx rfl (hb hby at_137) rfl ((if0 _ _).trans (teq (by decide)).2)) ?_
          show Gs p e below QQ T131 m 140 #[iv p1, iv p2, iv p3, iv p4, iv p5, iv p6, iv 0, iv 3, iv g2, iv g3, iv ((p6 &&& (15 : Int32)) - (8 : Int32)), rv b103, .unset, .unset, .unset, .unset] []
          refine G1 (XS.iload X131.here hx rfl (hb hby at_140) rfl) ?_
          show Goes p e below QQ (T131.setTop (mkF m 142 #[iv p1, iv p2, iv p3, iv p4, iv p5, iv p6, iv 0, iv 3, iv g2, iv g3, iv ((p6 &&& (15 : Int32)) - (8 : Int32)), rv b103, .unset, .unset, .unset, .unset] [(.int p5)]))
          refine Goes.on (fun t k => X131.ldcInt hx hown (mvT hZ (wI hw 23 rfl)) (g := (mkF m 142 #[iv p1, iv p2, iv p3, iv p4, iv p5, iv p6, iv 0, iv 3, iv g2, iv g3, iv ((p6 &&& (15 : Int32)) - (8 : Int32)), rv b103, .unset, .unset, .unset, .unset] [(.int p5)])) rfl (hb hby at_142) t k) ?_
          show Goes p e below QQ (T131.setTop (mkF m 144 #[iv p1, iv p2, iv p3, iv p4, iv p5, iv p6, iv 0, iv 3, iv g2, iv g3, iv ((p6 &&& (15 : Int32)) - (8 : Int32)), rv b103, .unset, .unset, .unset, .unset] [(.int 2147483647), (.int p5)]))
          refine G1 (XS.iand X131.here hx rfl (hb hby at_144) rfl) ?_
          show Gs p e below QQ T131 m 145 #[iv p1, iv p2, iv p3, iv p4, iv p5, iv p6, iv 0, iv 3, iv g2, iv g3, iv ((p6 &&& (15 : Int32)) - (8 : Int32)), rv b103, .unset, .unset, .unset, .unset] [(.int (p5 &&& (2147483647 : Int32)))]
          refine G1 (XS.istore X131.here hx rfl (hb hby at_145) rfl (l' := #[iv p1, iv p2, iv p3, iv p4, iv p5, iv p6, iv 0, iv 3, iv g2, iv g3, iv ((p6 &&& (15 : Int32)) - (8 : Int32)), rv b103, iv (p5 &&& (2147483647 : Int32)), .unset, .unset, .unset]) rfl) ?_
          refine G1 (XS.iload X131.here hx rfl (hb hby at_147) rfl) ?_
          show Goes p e below QQ (T131.setTop (mkF m 149 #[iv p1, iv p2, iv p3, iv p4, iv p5, iv p6, iv 0, iv 3, iv g2, iv g3, iv ((p6 &&& (15 : Int32)) - (8 : Int32)), rv b103, iv (p5 &&& (2147483647 : Int32)), .unset, .unset, .unset] [(.int 3)]))
          have J139 : ∀ (TJ139 : State) (lJ139 : List Loc), Stand p l e room_1 s m #[(.int p1), (.int p2), (.int p3), (.int p4), (.int p5), (.int p6)] below meth c TJ139 lJ139 5 32 → TJ139.heap = T131.heap → Fr n0 lJ139 → Goes p e below QQ (TJ139.setTop (mkF m 160 #[iv p1, iv p2, iv p3, iv p4, iv p5, iv p6, iv 0, iv 3, iv g2, iv g3, iv ((p6 &&& (15 : Int32)) - (8 : Int32)), rv b103, iv (p5 &&& (2147483647 : Int32)), .unset, .unset, .unset] [(.int 2)])) := by
            intro TJ139 lJ139 XJ139 eJ139 NJ139
            refine G1 (XS.istore XJ139.here hx rfl (hb hby at_160) rfl (l' := #[iv p1, iv p2, iv p3, iv p4, iv p5, iv p6, iv 0, iv 3, iv g2, iv g3, iv ((p6 &&& (15 : Int32)) - (8 : Int32)), rv b103, iv (p5 &&& (2147483647 : Int32)), iv 2, .unset, .unset]) rfl) ?_
            refine G1 (XS.aload XJ139.here hx rfl (hb hby at_162) rfl rfl) ?_
            refine G1 (XS.iload XJ139.here hx rfl (hb hby at_164) rfl) ?_
            show Goes p e below QQ (TJ139.setTop (mkF m 166 #[iv p1, iv p2, iv p3, iv p4, iv p5, iv p6, iv 0, iv 3, iv g2, iv g3, iv ((p6 &&& (15 : Int32)) - (8 : Int32)), rv b103, iv (p5 &&& (2147483647 : Int32)), iv 2, .unset, .unset] [(.int (p5 &&& (2147483647 : Int32))), (.ref b103)]))
            obtain ⟨cq140, kq140, q140a, q140b, q140c⟩ := isOf hZ eJ139 A103_132
            obtain ⟨_, _, ⟨T140, L140, k140, n140⟩, -, X140, ⟨Lc140, hQ140, l140, y140, z140⟩, st140⟩ := XJ139.virtualBack hx (y := (⟨"com/example/bindery/bindery/PartIndex", "entryAt", "(I)I"⟩ : MethodName)) (z := (⟨"com/example/bindery/bindery/PartIndex", "entryAt", "(I)I"⟩ : MethodName)) hown (mvT hZ (wI hw 24 rfl)) (mvT hZ (wI hw 25 rfl)) (notFace_of_selects (args := #[]) (mvT hZ (wI hw 27 rfl))) (mvT hZ (wI hw 27 rfl)) (mvT hZ (wI hw 26 rfl)) (by decide) (backOf (W := 0) (rmE0 l Z a0 hw [] b103 (p5 &&& (2147483647 : Int32)) (3 : Int32) T131.heap n0 (Nat.le_trans Z0 K138.1) slots_a2 size_a2) hZ (wI hw 28 rfl) (wI hw 2 rfl) (by decide) (by decide)) q140a q140c (g := (mkF m 166 #[iv p1, iv p2, iv p3, iv p4, iv p5, iv p6, iv 0, iv 3, iv g2, iv g3, iv ((p6 &&& (15 : Int32)) - (8 : Int32)), rv b103, iv (p5 &&& (2147483647 : Int32)), iv 2, .unset, .unset] [(.int (p5 &&& (2147483647 : Int32))), (.ref b103)])) rfl (by rw [hml]; rfl) (Steps.refl _) (argsL := [(.int (p5 &&& (2147483647 : Int32)))]) (rest := []) (lenOf pd_1 rfl) rfl (by show 2 * 0 + _ ≤ _; exact Nat.le_of_eq rfl) (hb hby at_166) (fun _ _ => ⟨rfl, eJ139, (by decide : 5 + 0 ≤ _), (by decide : 32 + 0 ≤ _)⟩)
            dsimp only [Pt.U, Pt.locs, Pt.cells, Pt.slots] at X140 l140 y140 z140 st140 hQ140
            have l140 := l140.symm; have y140 := y140.symm; have z140 := z140.symm; subst l140 y140 z140
            have X140 : Stand p l e room_1 s m #[(.int p1), (.int p2), (.int p3), (.int p4), (.int p5), (.int p6)] below meth c T140 _ 5 32 := X140
            obtain ⟨rfl, M140, e140⟩ := hQ140
            have N140 := Fr.app NJ139 M140
            refine Goes.on (fun t k => st140.trans k) ?_
            show Goes p e below QQ (T140.setTop (mkF m 169 #[iv p1, iv p2, iv p3, iv p4, iv p5, iv p6, iv 0, iv 3, iv g2, iv g3, iv ((p6 &&& (15 : Int32)) - (8 : Int32)), rv b103, iv (p5 &&& (2147483647 : Int32)), iv 2, .unset, .unset] [(.int (entF (p5 &&& (2147483647 : Int32)) (3 : Int32)))]))
            refine G1 (XS.iload X140.here hx rfl (hb hby at_169) rfl) ?_
            refine G1 (XS.iload X140.here hx rfl (hb hby at_171) rfl) ?_
            show Goes p e below QQ (T140.setTop (mkF m 173 #[iv p1, iv p2, iv p3, iv p4, iv p5, iv p6, iv 0, iv 3, iv g2, iv g3, iv ((p6 &&& (15 : Int32)) - (8 : Int32)), rv b103, iv (p5 &&& (2147483647 : Int32)), iv 2, .unset, .unset] [(.int 3), (.int (p5 &&& (2147483647 : Int32))), (.int (entF (p5 &&& (2147483647 : Int32)) (3 : Int32)))]))
            obtain ⟨_, _, ⟨T141, L141, k141, n141⟩, -, X141, ⟨Lc141, hQ141, l141, y141, z141⟩, st141⟩ := Jvm.LawKit.callS X140 hx (y := (⟨"com/example/bindery/bindery/PartIndexEntryAtPinLaw", "few", "(II)I"⟩ : MethodName)) hown (mvT hZ (wI hw 33 rfl)) (mvT hZ (wI hw 34 rfl)) (mvT hZ (wI hw 35 rfl)) (mvT hZ (wI hw 36 rfl)) (by decide) (backOf (W := 1) (rmFe l Z a0 hw [] (p5 &&& (2147483647 : Int32)) (3 : Int32) T131.heap n0 (Nat.le_trans Z0 K138.1) ) hZ (wI hw 36 rfl) (wI hw 35 rfl) (by decide) (by decide)) (g := (mkF m 173 #[iv p1, iv p2, iv p3, iv p4, iv p5, iv p6, iv 0, iv 3, iv g2, iv g3, iv ((p6 &&& (15 : Int32)) - (8 : Int32)), rv b103, iv (p5 &&& (2147483647 : Int32)), iv 2, .unset, .unset] [(.int 3), (.int (p5 &&& (2147483647 : Int32))), (.int (entF (p5 &&& (2147483647 : Int32)) (3 : Int32)))])) rfl (by rw [hml]; rfl) (argsL := [(.int (p5 &&& (2147483647 : Int32))), (.int 3)]) (rest := [(.int (entF (p5 &&& (2147483647 : Int32)) (3 : Int32)))]) (lenOf pd_0 rfl) rfl (by show 2 * 0 + _ ≤ _; exact Nat.le_of_eq rfl) (hb hby at_173) (fun _ _ => ⟨rfl, e140, (by decide : 5 + 0 ≤ _), (by decide : 32 + 0 ≤ _)⟩)
            dsimp only [Pt.U, Pt.locs, Pt.cells, Pt.slots] at X141 l141 y141 z141 st141 hQ141
            have l141 := l141.symm; have y141 := y141.symm; have z141 := z141.symm; subst l141 y141 z141
            have X141 : Stand p l e room_1 s m #[(.int p1), (.int p2), (.int p3), (.int p4), (.int p5), (.int p6)] below meth c T141 _ 5 32 := X141
            obtain ⟨rfl, M141, e141⟩ := hQ141
            have N141 := Fr.app N140 M141
            refine Goes.on (fun t k => st141 _ k) ?_
            show Goes p e below QQ (T141.setTop (mkF m 176 #[iv p1, iv p2, iv p3, iv p4, iv p5, iv p6, iv 0, iv 3, iv g2, iv g3, iv ((p6 &&& (15 : Int32)) - (8 : Int32)), rv b103, iv (p5 &&& (2147483647 : Int32)), iv 2, .unset, .unset] [(.int (fewF (p5 &&& (2147483647 : Int32)) (3 : Int32))), (.int (entF (p5 &&& (2147483647 : Int32)) (3 : Int32)))]))
            refine G1 (XS.icmpNo X141.here hx rfl (hb hby at_176) rfl (teq rfl).2) ?_
            show Gs p e below QQ T141 m 179 #[iv p1, iv p2, iv p3, iv p4, iv p5, iv p6, iv 0, iv 3, iv g2, iv g3, iv ((p6 &&& (15 : Int32)) - (8 : Int32)), rv b103, iv (p5 &&& (2147483647 : Int32)), iv 2, .unset, .unset] []
            refine G1 (XS.aload X141.here hx rfl (hb hby at_179) rfl rfl) ?_
            refine G1 (XS.iconst X141.here hx rfl (hb hby at_181)) ?_
            show Goes p e below QQ (T141.setTop (mkF m 182 #[iv p1, iv p2, iv p3, iv p4, iv p5, iv p6, iv 0, iv 3, iv g2, iv g3, iv ((p6 &&& (15 : Int32)) - (8 : Int32)), rv b103, iv (p5 &&& (2147483647 : Int32)), iv 2, .unset, .unset] [(.int 0), (.ref b103)]))
            obtain ⟨cq142, kq142, q142a, q142b, q142c⟩ := isOf hZ e141 A103_132
            obtain ⟨_, _, ⟨T142, L142, k142, n142⟩, -, X142, ⟨Lc142, hQ142, l142, y142, z142⟩, st142⟩ := X141.virtualBack hx (y := (⟨"com/example/bindery/bindery/PartIndex", "entryAt", "(I)I"⟩ : MethodName)) (z := (⟨"com/example/bindery/bindery/PartIndex", "entryAt", "(I)I"⟩ : MethodName)) hown (mvT hZ (wI hw 24 rfl)) (mvT hZ (wI hw 25 rfl)) (notFace_of_selects (args := #[]) (mvT hZ (wI hw 27 rfl))) (mvT hZ (wI hw 27 rfl)) (mvT hZ (wI hw 26 rfl)) (by decide) (backOf (W := 0) (rmE0 l Z a0 hw [] b103 (0 : Int32) (3 : Int32) T131.heap n0 (Nat.le_trans Z0 K138.1) slots_a2 size_a2) hZ (wI hw 28 rfl) (wI hw 2 rfl) (by decide) (by decide)) q142a q142c (g := (mkF m 182 #[iv p1, iv p2, iv p3, iv p4, iv p5, iv p6, iv 0, iv 3, iv g2, iv g3, iv ((p6 &&& (15 : Int32)) - (8 : Int32)), rv b103, iv (p5 &&& (2147483647 : Int32)), iv 2, .unset, .unset] [(.int 0), (.ref b103)])) rfl (by rw [hml]; rfl) (Steps.refl _) (argsL := [(.int 0)]) (rest := []) (lenOf pd_1 rfl) rfl (by show 2 * 0 + _ ≤ _; exact Nat.le_of_eq rfl) (hb hby at_182) (fun _ _ => ⟨rfl, e141, (by decide : 5 + 0 ≤ _), (by decide : 32 + 0 ≤ _)⟩)
            dsimp only [Pt.U, Pt.locs, Pt.cells, Pt.slots] at X142 l142 y142 z142 st142 hQ142
            have l142 := l142.symm; have y142 := y142.symm; have z142 := z142.symm; subst l142 y142 z142
            have X142 : Stand p l e room_1 s m #[(.int p1), (.int p2), (.int p3), (.int p4), (.int p5), (.int p6)] below meth c T142 _ 5 32 := X142
            obtain ⟨rfl, M142, e142⟩ := hQ142
            have N142 := Fr.app N141 M142
            refine Goes.on (fun t k => st142.trans k) ?_
            show Goes p e below QQ (T142.setTop (mkF m 185 #[iv p1, iv p2, iv p3, iv p4, iv p5, iv p6, iv 0, iv 3, iv g2, iv g3, iv ((p6 &&& (15 : Int32)) - (8 : Int32)), rv b103, iv (p5 &&& (2147483647 : Int32)), iv 2, .unset, .unset] [(.int (entF (0 : Int32) (3 : Int32)))]))
            refine G1 (XS.iconst X142.here hx rfl (hb hby at_185)) ?_
            refine G1 (XS.iload X142.here hx rfl (hb hby at_186) rfl) ?_
            show Goes p e below QQ (T142.setTop (mkF m 188 #[iv p1, iv p2, iv p3, iv p4, iv p5, iv p6, iv 0, iv 3, iv g2, iv g3, iv ((p6 &&& (15 : Int32)) - (8 : Int32)), rv b103, iv (p5 &&& (2147483647 : Int32)), iv 2, .unset, .unset] [(.int 3), (.int 0), (.int (entF (0 : Int32) (3 : Int32)))]))
            obtain ⟨_, _, ⟨T143, L143, k143, n143⟩, -, X143, ⟨Lc143, hQ143, l143, y143, z143⟩, st143⟩ := Jvm.LawKit.callS X142 hx (y := (⟨"com/example/bindery/bindery/PartIndexEntryAtPinLaw", "few", "(II)I"⟩ : MethodName)) hown (mvT hZ (wI hw 33 rfl)) (mvT hZ (wI hw 34 rfl)) (mvT hZ (wI hw 35 rfl)) (mvT hZ (wI hw 36 rfl)) (by decide) (backOf (W := 1) (rmFe l Z a0 hw [] (0 : Int32) (3 : Int32) T131.heap n0 (Nat.le_trans Z0 K138.1) ) hZ (wI hw 36 rfl) (wI hw 35 rfl) (by decide) (by decide)) (g := (mkF m 188 #[iv p1, iv p2, iv p3, iv p4, iv p5, iv p6, iv 0, iv 3, iv g2, iv g3, iv ((p6 &&& (15 : Int32)) - (8 : Int32)), rv b103, iv (p5 &&& (2147483647 : Int32)), iv 2, .unset, .unset] [(.int 3), (.int 0), (.int (entF (0 : Int32) (3 : Int32)))])) rfl (by rw [hml]; rfl) (argsL := [(.int 0), (.int 3)]) (rest := [(.int (entF (0 : Int32) (3 : Int32)))]) (lenOf pd_0 rfl) rfl (by show 2 * 0 + _ ≤ _; exact Nat.le_of_eq rfl) (hb hby at_188) (fun _ _ => ⟨rfl, e142, (by decide : 5 + 0 ≤ _), (by decide : 32 + 0 ≤ _)⟩)
            dsimp only [Pt.U, Pt.locs, Pt.cells, Pt.slots] at X143 l143 y143 z143 st143 hQ143
            have l143 := l143.symm; have y143 := y143.symm; have z143 := z143.symm; subst l143 y143 z143
            have X143 : Stand p l e room_1 s m #[(.int p1), (.int p2), (.int p3), (.int p4), (.int p5), (.int p6)] below meth c T143 _ 5 32 := X143
            obtain ⟨rfl, M143, e143⟩ := hQ143
            have N143 := Fr.app N142 M143
            refine Goes.on (fun t k => st143 _ k) ?_
            show Goes p e below QQ (T143.setTop (mkF m 191 #[iv p1, iv p2, iv p3, iv p4, iv p5, iv p6, iv 0, iv 3, iv g2, iv g3, iv ((p6 &&& (15 : Int32)) - (8 : Int32)), rv b103, iv (p5 &&& (2147483647 : Int32)), iv 2, .unset, .unset] [(.int (fewF (0 : Int32) (3 : Int32))), (.int (entF (0 : Int32) (3 : Int32)))]))
            refine G1 (XS.icmpNo X143.here hx rfl (hb hby at_191) rfl (teq rfl).2) ?_
            show Gs p e below QQ T143 m 194 #[iv p1, iv p2, iv p3, iv p4, iv p5, iv p6, iv 0, iv 3, iv g2, iv g3, iv ((p6 &&& (15 : Int32)) - (8 : Int32)), rv b103, iv (p5 &&& (2147483647 : Int32)), iv 2, .unset, .unset] []
            refine G1 (XS.aload X143.here hx rfl (hb hby at_194) rfl rfl) ?_
            refine G1 (XS.iload X143.here hx rfl (hb hby at_196) rfl) ?_
            show Goes p e below QQ (T143.setTop (mkF m 198 #[iv p1, iv p2, iv p3, iv p4, iv p5, iv p6, iv 0, iv 3, iv g2, iv g3, iv ((p6 &&& (15 : Int32)) - (8 : Int32)), rv b103, iv (p5 &&& (2147483647 : Int32)), iv 2, .unset, .unset] [(.int 3), (.ref b103)]))
            obtain ⟨cq144, kq144, q144a, q144b, q144c⟩ := isOf hZ e143 A103_132
            obtain ⟨_, _, ⟨T144, L144, k144, n144⟩, -, X144, ⟨Lc144, hQ144, l144, y144, z144⟩, st144⟩ := X143.virtualBack hx (y := (⟨"com/example/bindery/bindery/PartIndex", "entryAt", "(I)I"⟩ : MethodName)) (z := (⟨"com/example/bindery/bindery/PartIndex", "entryAt", "(I)I"⟩ : MethodName)) hown (mvT hZ (wI hw 24 rfl)) (mvT hZ (wI hw 25 rfl)) (notFace_of_selects (args := #[]) (mvT hZ (wI hw 27 rfl))) (mvT hZ (wI hw 27 rfl)) (mvT hZ (wI hw 26 rfl)) (by decide) (backOf (W := 0) (rmE0 l Z a0 hw [] b103 (3 : Int32) (3 : Int32) T131.heap n0 (Nat.le_trans Z0 K138.1) slots_a2 size_a2) hZ (wI hw 28 rfl) (wI hw 2 rfl) (by decide) (by decide)) q144a q144c (g := (mkF m 198 #[iv p1, iv p2, iv p3, iv p4, iv p5, iv p6, iv 0, iv 3, iv g2, iv g3, iv ((p6 &&& (15 : Int32)) - (8 : Int32)), rv b103, iv (p5 &&& (2147483647 : Int32)), iv 2, .unset, .unset] [(.int 3), (.ref b103)])) rfl (by rw [hml]; rfl) (Steps.refl _) (argsL := [(.int 3)]) (rest := []) (lenOf pd_1 rfl) rfl (by show 2 * 0 + _ ≤ _; exact Nat.le_of_eq rfl) (hb hby at_198) (fun _ _ => ⟨rfl, e143, (by decide : 5 + 0 ≤ _), (by decide : 32 + 0 ≤ _)⟩)
            dsimp only [Pt.U, Pt.locs, Pt.cells, Pt.slots] at X144 l144 y144 z144 st144 hQ144
            have l144 := l144.symm; have y144 := y144.symm; have z144 := z144.symm; subst l144 y144 z144
            have X144 : Stand p l e room_1 s m #[(.int p1), (.int p2), (.int p3), (.int p4), (.int p5), (.int p6)] below meth c T144 _ 5 32 := X144
            obtain ⟨rfl, M144, e144⟩ := hQ144
            have N144 := Fr.app N143 M144
            refine Goes.on (fun t k => st144.trans k) ?_
            show Goes p e below QQ (T144.setTop (mkF m 201 #[iv p1, iv p2, iv p3, iv p4, iv p5, iv p6, iv 0, iv 3, iv g2, iv g3, iv ((p6 &&& (15 : Int32)) - (8 : Int32)), rv b103, iv (p5 &&& (2147483647 : Int32)), iv 2, .unset, .unset] [(.int (entF (3 : Int32) (3 : Int32)))]))
            refine G1 (XS.iconst X144.here hx rfl (hb hby at_201)) ?_
            show Gs p e below QQ T144 m 202 #[iv p1, iv p2, iv p3, iv p4, iv p5, iv p6, iv 0, iv 3, iv g2, iv g3, iv ((p6 &&& (15 : Int32)) - (8 : Int32)), rv b103, iv (p5 &&& (2147483647 : Int32)), iv 2, .unset, .unset] [(.int (-1)), (.int (entF (3 : Int32) (3 : Int32)))]
            refine G1 (XS.icmpNo X144.here hx rfl (hb hby at_202) rfl (teq (by decide)).2) ?_
            show Gs p e below QQ T144 m 205 #[iv p1, iv p2, iv p3, iv p4, iv p5, iv p6, iv 0, iv 3, iv g2, iv g3, iv ((p6 &&& (15 : Int32)) - (8 : Int32)), rv b103, iv (p5 &&& (2147483647 : Int32)), iv 2, .unset, .unset] []
            refine G1 (XS.aload X144.here hx rfl (hb hby at_205) rfl rfl) ?_
            refine G1 (XS.iload X144.here hx rfl (hb hby at_207) rfl) ?_
            show Goes p e below QQ (T144.setTop (mkF m 209 #[iv p1, iv p2, iv p3, iv p4, iv p5, iv p6, iv 0, iv 3, iv g2, iv g3, iv ((p6 &&& (15 : Int32)) - (8 : Int32)), rv b103, iv (p5 &&& (2147483647 : Int32)), iv 2, .unset, .unset] [(.int 2), (.ref b103)]))
            obtain ⟨cq145, kq145, q145a, q145b, q145c⟩ := isOf hZ e144 A103_132
            obtain ⟨_, _, ⟨T145, L145, k145, n145⟩, -, X145, ⟨Lc145, hQ145, l145, y145, z145⟩, st145⟩ := X144.virtualBack hx (y := (⟨"com/example/bindery/bindery/PartIndex", "entryAt", "(I)I"⟩ : MethodName)) (z := (⟨"com/example/bindery/bindery/PartIndex", "entryAt", "(I)I"⟩ : MethodName)) hown (mvT hZ (wI hw 24 rfl)) (mvT hZ (wI hw 25 rfl)) (notFace_of_selects (args := #[]) (mvT hZ (wI hw 27 rfl))) (mvT hZ (wI hw 27 rfl)) (mvT hZ (wI hw 26 rfl)) (by decide) (backOf (W := 0) (rmE0 l Z a0 hw [] b103 (2 : Int32) (3 : Int32) T131.heap n0 (Nat.le_trans Z0 K138.1) slots_a2 size_a2) hZ (wI hw 28 rfl) (wI hw 2 rfl) (by decide) (by decide)) q145a q145c (g := (mkF m 209 #[iv p1, iv p2, iv p3, iv p4, iv p5, iv p6, iv 0, iv 3, iv g2, iv g3, iv ((p6 &&& (15 : Int32)) - (8 : Int32)), rv b103, iv (p5 &&& (2147483647 : Int32)), iv 2, .unset, .unset] [(.int 2), (.ref b103)])) rfl (by rw [hml]; rfl) (Steps.refl _) (argsL := [(.int 2)]) (rest := []) (lenOf pd_1 rfl) rfl (by show 2 * 0 + _ ≤ _; exact Nat.le_of_eq rfl) (hb hby at_209) (fun _ _ => ⟨rfl, e144, (by decide : 5 + 0 ≤ _), (by decide : 32 + 0 ≤ _)⟩)
            dsimp only [Pt.U, Pt.locs, Pt.cells, Pt.slots] at X145 l145 y145 z145 st145 hQ145
            have l145 := l145.symm; have y145 := y145.symm; have z145 := z145.symm; subst l145 y145 z145
            have X145 : Stand p l e room_1 s m #[(.int p1), (.int p2), (.int p3), (.int p4), (.int p5), (.int p6)] below meth c T145 _ 5 32 := X145
            obtain ⟨rfl, M145, e145⟩ := hQ145
            have N145 := Fr.app N144 M145
            refine Goes.on (fun t k => st145.trans k) ?_
            show Goes p e below QQ (T145.setTop (mkF m 212 #[iv p1, iv p2, iv p3, iv p4, iv p5, iv p6, iv 0, iv 3, iv g2, iv g3, iv ((p6 &&& (15 : Int32)) - (8 : Int32)), rv b103, iv (p5 &&& (2147483647 : Int32)), iv 2, .unset, .unset] [(.int (entF (2 : Int32) (3 : Int32)))]))
            refine G1 (XS.iload X145.here hx rfl (hb hby at_212) rfl) ?_
            refine G1 (XS.iload X145.here hx rfl (hb hby at_214) rfl) ?_
            show Goes p e below QQ (T145.setTop (mkF m 216 #[iv p1, iv p2, iv p3, iv p4, iv p5, iv p6, iv 0, iv 3, iv g2, iv g3, iv ((p6 &&& (15 : Int32)) - (8 : Int32)), rv b103, iv (p5 &&& (2147483647 : Int32)), iv 2, .unset, .unset] [(.int 3), (.int 2), (.int (entF (2 : Int32) (3 : Int32)))]))
            obtain ⟨_, _, ⟨T146, L146, k146, n146⟩, -, X146, ⟨Lc146, hQ146, l146, y146, z146⟩, st146⟩ := Jvm.LawKit.callS X145 hx (y := (⟨"com/example/bindery/bindery/PartIndexEntryAtPinLaw", "few", "(II)I"⟩ : MethodName)) hown (mvT hZ (wI hw 33 rfl)) (mvT hZ (wI hw 34 rfl)) (mvT hZ (wI hw 35 rfl)) (mvT hZ (wI hw 36 rfl)) (by decide) (backOf (W := 1) (rmFe l Z a0 hw [] (2 : Int32) (3 : Int32) T131.heap n0 (Nat.le_trans Z0 K138.1) ) hZ (wI hw 36 rfl) (wI hw 35 rfl) (by decide) (by decide)) (g := (mkF m 216 #[iv p1, iv p2, iv p3, iv p4, iv p5, iv p6, iv 0, iv 3, iv g2, iv g3, iv ((p6 &&& (15 : Int32)) - (8 : Int32)), rv b103, iv (p5 &&& (2147483647 : Int32)), iv 2, .unset, .unset] [(.int 3), (.int 2), (.int (entF (2 : Int32) (3 : Int32)))])) rfl (by rw [hml]; rfl) (argsL := [(.int 2), (.int 3)]) (rest := [(.int (entF (2 : Int32) (3 : Int32)))]) (lenOf pd_0 rfl) rfl (by show 2 * 0 + _ ≤ _; exact Nat.le_of_eq rfl) (hb hby at_216) (fun _ _ => ⟨rfl, e145, (by decide : 5 + 0 ≤ _), (by decide : 32 + 0 ≤ _)⟩)
            dsimp only [Pt.U, Pt.locs, Pt.cells, Pt.slots] at X146 l146 y146 z146 st146 hQ146
            have l146 := l146.symm; have y146 := y146.symm; have z146 := z146.symm; subst l146 y146 z146
            have X146 : Stand p l e room_1 s m #[(.int p1), (.int p2), (.int p3), (.int p4), (.int p5), (.int p6)] below meth c T146 _ 5 32 := X146
            obtain ⟨rfl, M146, e146⟩ := hQ146
            have N146 := Fr.app N145 M146
            refine Goes.on (fun t k => st146 _ k) ?_
            show Goes p e below QQ (T146.setTop (mkF m 219 #[iv p1, iv p2, iv p3, iv p4, iv p5, iv p6, iv 0, iv 3, iv g2, iv g3, iv ((p6 &&& (15 : Int32)) - (8 : Int32)), rv b103, iv (p5 &&& (2147483647 : Int32)), iv 2, .unset, .unset] [(.int (fewF (2 : Int32) (3 : Int32))), (.int (entF (2 : Int32) (3 : Int32)))]))
            refine G1 (XS.icmpNo X146.here hx rfl (hb hby at_219) rfl (teq rfl).2) ?_
            show Gs p e below QQ T146 m 222 #[iv p1, iv p2, iv p3, iv p4, iv p5, iv p6, iv 0, iv 3, iv g2, iv g3, iv ((p6 &&& (15 : Int32)) - (8 : Int32)), rv b103, iv (p5 &&& (2147483647 : Int32)), iv 2, .unset, .unset] []
            refine G1 (XS.iconst X146.here hx rfl (hb hby at_222)) ?_
            refine G1 (XS.goto X146.here hx rfl (pc0 := 223) (pc' := 227) rfl (hb hby at_223) (by decide) (by decide)) ?_
            show Goes p e below QQ (T146.setTop (mkF m 227 #[iv p1, iv p2, iv p3, iv p4, iv p5, iv p6, iv 0, iv 3, iv g2, iv g3, iv ((p6 &&& (15 : Int32)) - (8 : Int32)), rv b103, iv (p5 &&& (2147483647 : Int32)), iv 2, .unset, .unset] [(.int 1)]))
            exact Goes.rN X146 hx (t := .boolean) hret (by simp) hlk (hb hby at_227) hQQ ⟨rfl, N146⟩ (by decide) (by decide)
          show Goes p e below QQ (T131.setTop (mkF m 149 #[iv p1, iv p2, iv p3, iv p4, iv p5, iv p6, iv 0, iv 3, iv g2, iv g3, iv ((p6 &&& (15 : Int32)) - (8 : Int32)), rv b103, iv (p5 &&& (2147483647 : Int32)), .unset, .unset, .unset] [(.int 3)]))
          refine G1 (XS.ifNo X131.here hx rfl (hb hby at_149) rfl ((if0 _ _).trans (tlt (by decide)).2.2.2)) ?_
          show Gs p e below QQ T131 m 152 #[iv p1, iv p2, iv p3, iv p4, iv p5, iv p6, iv 0, iv 3, iv g2, iv g3, iv ((p6 &&& (15 : Int32)) - (8 : Int32)), rv b103, iv (p5 &&& (2147483647 : Int32)), .unset, .unset, .unset] []
          refine G1 (XS.iload X131.here hx rfl (hb hby at_152) rfl) ?_
          refine G1 (XS.iconst X131.here hx rfl (hb hby at_154)) ?_
          show Gs p e below QQ T131 m 155 #[iv p1, iv p2, iv p3, iv p4, iv p5, iv p6, iv 0, iv 3, iv g2, iv g3, iv ((p6 &&& (15 : Int32)) - (8 : Int32)), rv b103, iv (p5 &&& (2147483647 : Int32)), .unset, .unset, .unset] [(.int 1), (.int 3)]
          refine G1 (XS.isub X131.here hx rfl (hb hby at_155) rfl) ?_
          show Goes p e below QQ (T131.setTop (mkF m 156 #[iv p1, iv p2, iv p3, iv p4, iv p5, iv p6, iv 0, iv 3, iv g2, iv g3, iv ((p6 &&& (15 : Int32)) - (8 : Int32)), rv b103, iv (p5 &&& (2147483647 : Int32)), .unset, .unset, .unset] [(.int ((3 : Int32) - (1 : Int32)))]))
          rw [(by decide : ((3 : Int32) - (1 : Int32)) = (2 : Int32))]
          show Goes p e below QQ (T131.setTop (mkF m 156 #[iv p1, iv p2, iv p3, iv p4, iv p5, iv p6, iv 0, iv 3, iv g2, iv g3, iv ((p6 &&& (15 : Int32)) - (8 : Int32)), rv b103, iv (p5 &&& (2147483647 : Int32)), .unset, .unset, .unset] [(.int 2)]))
          refine G1 (XS.goto X131.here hx rfl (pc0 := 156) (pc' := 160) rfl (hb hby at_156) (by decide) (by decide)) ?_
          show Goes p e below QQ (T131.setTop (mkF m 160 #[iv p1, iv p2, iv p3, iv p4, iv p5, iv p6, iv 0, iv 3, iv g2, iv g3, iv ((p6 &&& (15 : Int32)) - (8 : Int32)), rv b103, iv (p5 &&& (2147483647 : Int32)), .unset, .unset, .unset] [(.int 2)]))
          exact J139 _ _ X131 rfl N131
        show Goes p e below QQ (TJ101.setTop (mkF m 38 #[iv p1, iv p2, iv p3, iv p4, iv p5, iv p6, iv 0, iv 3, iv (if (p1 &&& (8 : Int32)) = (0 : Int32) then p3 else p2), .unset, .unset, .unset, .unset, .unset, .unset, .unset] [(.int (p1 &&& (16 : Int32)))]))
        by_cases hb147 : (p1 &&& (16 : Int32)) = (0 : Int32)
        · refine G1 (XS.ifYes XJ101.here hx rfl (pc0 := 38) (pc' := 45) rfl (hb hby at_38) rfl ((if0 _ _).trans (teq hb147).1) (by decide) (by decide)) ?_
          show Gs p e below QQ TJ101 m 45 #[iv p1, iv p2, iv p3, iv p4, iv p5, iv p6, iv 0, iv 3, iv (if (p1 &&& (8 : Int32)) = (0 : Int32) then p3 else p2), .unset, .unset, .unset, .unset, .unset, .unset, .unset] []
          refine G1 (XS.iloadN XJ101.here hx rfl (hb hby at_45) rfl) ?_
          refine G1 (XS.bipush XJ101.here hx rfl (hb hby at_46)) ?_
          show Gs p e below QQ TJ101 m 48 #[iv p1, iv p2, iv p3, iv p4, iv p5, iv p6, iv 0, iv 3, iv (if (p1 &&& (8 : Int32)) = (0 : Int32) then p3 else p2), .unset, .unset, .unset, .unset, .unset, .unset, .unset] [(.int 32), (.int p1)]
          refine G1 (XS.iand XJ101.here hx rfl (hb hby at_48) rfl) ?_
          show Goes p e below QQ (TJ101.setTop (mkF m 49 #[iv p1, iv p2, iv p3, iv p4, iv p5, iv p6, iv 0, iv 3, iv (if (p1 &&& (8 : Int32)) = (0 : Int32) then p3 else p2), .unset, .unset, .unset, .unset, .unset, .unset, .unset] [(.int (p1 &&& (32 : Int32)))]))
          by_cases hb148 : (p1 &&& (32 : Int32)) = (0 : Int32)
          · refine G1 (XS.ifYes XJ101.here hx rfl (pc0 := 49) (pc' := 57) rfl (hb hby at_49) rfl ((if0 _ _).trans (teq hb148).1) (by decide) (by decide)) ?_
            show Gs p e below QQ TJ101 m 57 #[iv p1, iv p2, iv p3, iv p4, iv p5, iv p6, iv 0, iv 3, iv (if (p1 &&& (8 : Int32)) = (0 : Int32) then p3 else p2), .unset, .unset, .unset, .unset, .unset, .unset, .unset] []
            refine G1 (XS.iloadN XJ101.here hx rfl (hb hby at_57) rfl) ?_
            show Goes p e below QQ (TJ101.setTop (mkF m 58 #[iv p1, iv p2, iv p3, iv p4, iv p5, iv p6, iv 0, iv 3, iv (if (p1 &&& (8 : Int32)) = (0 : Int32) then p3 else p2), .unset, .unset, .unset, .unset, .unset, .unset, .unset] [(.int p4)]))
            rw [(((if_pos hb147).trans ((if_pos hb148).trans rfl)) : (if (p1 &&& (16 : Int32)) = (0 : Int32) then (if (p1 &&& (32 : Int32)) = (0 : Int32) then p4 else (if (p1 &&& (8 : Int32)) = (0 : Int32) then p3 else p2)) else p2) = p4)] at J102
            exact J102 _ _ XJ101 eJ101 NJ101
          · refine G1 (XS.ifNo XJ101.here hx rfl (hb hby at_49) rfl ((if0 _ _).trans (feq hb148).1)) ?_
            show Gs p e below QQ TJ101 m 52 #[iv p1, iv p2, iv p3, iv p4, iv p5, iv p6, iv 0, iv 3, iv (if (p1 &&& (8 : Int32)) = (0 : Int32) then p3 else p2), .unset, .unset, .unset, .unset, .unset, .unset, .unset] []
            refine G1 (XS.iload XJ101.here hx rfl (hb hby at_52) rfl) ?_
            refine G1 (XS.goto XJ101.here hx rfl (pc0 := 54) (pc' := 58) rfl (hb hby at_54) (by decide) (by decide)) ?_
            show Goes p e below QQ (TJ101.setTop (mkF m 58 #[iv p1, iv p2, iv p3, iv p4, iv p5, iv p6, iv 0, iv 3, iv (if (p1 &&& (8 : Int32)) = (0 : Int32) then p3 else p2), .unset, .unset, .unset, .unset, .unset, .unset, .unset] [(.int (if (p1 &&& (8 : Int32)) = (0 : Int32) then p3 else p2))]))
            rw [(((if_pos hb147).trans ((if_neg hb148).trans rfl)) : (if (p1 &&& (16 : Int32)) = (0 : Int32) then (if (p1 &&& (32 : Int32)) = (0 : Int32) then p4 else (if (p1 &&& (8 : Int32)) = (0 : Int32) then p3 else p2)) else p2) = (if (p1 &&& (8 : Int32)) = (0 : Int32) then p3 else p2))] at J102
            exact J102 _ _ XJ101 eJ101 NJ101
        · refine G1 (XS.ifNo XJ101.here hx rfl (hb hby at_38) rfl ((if0 _ _).trans (feq hb147).1)) ?_
          show Gs p e below QQ TJ101 m 41 #[iv p1, iv p2, iv p3, iv p4, iv p5, iv p6, iv 0, iv 3, iv (if (p1 &&& (8 : Int32)) = (0 : Int32) then p3 else p2), .unset, .unset, .unset, .unset, .unset, .unset, .unset] []
          refine G1 (XS.iloadN XJ101.here hx rfl (hb hby at_41) rfl) ?_
          refine G1 (XS.goto XJ101.here hx rfl (pc0 := 42) (pc' := 58) rfl (hb hby at_42) (by decide) (by decide)) ?_
          show Goes p e below QQ (TJ101.setTop (mkF m 58 #[iv p1, iv p2, iv p3, iv p4, iv p5, iv p6, iv 0, iv 3, iv (if (p1 &&& (8 : Int32)) = (0 : Int32) then p3 else p2), .unset, .unset, .unset, .unset, .unset, .unset, .unset] [(.int p2)]))
          rw [(((if_neg hb147).trans rfl) : (if (p1 &&& (16 : Int32)) = (0 : Int32) then (if (p1 &&& (32 : Int32)) = (0 : Int32) then p4 else (if (p1 &&& (8 : Int32)) = (0 : Int32) then p3 else p2)) else p2) = p2)] at J102
          exact J102 _ _ XJ101 eJ101 NJ101
      show Goes p e below QQ (s₁.setTop (mkF m 24 #[iv p1, iv p2, iv p3, iv p4, iv p5, iv p6, iv 0, iv 3, .unset, .unset, .unset, .unset, .unset, .unset, .unset, .unset] [(.int (p1 &&& (8 : Int32)))]))
      by_cases hb149 : (p1 &&& (8 : Int32)) = (0 : Int32)
      · refine G1 (XS.ifYes X0.here hx rfl (pc0 := 24) (pc' := 31) rfl (hb hby at_24) rfl ((if0 _ _).trans (teq hb149).1) (by decide) (by decide)) ?_
        show Gs p e below QQ s₁ m 31 #[iv p1, iv p2, iv p3, iv p4, iv p5, iv p6, iv 0, iv 3, .unset, .unset, .unset, .unset, .unset, .unset, .unset, .unset] []
        refine G1 (XS.iloadN X0.here hx rfl (hb hby at_31) rfl) ?_
        show Goes p e below QQ (s₁.setTop (mkF m 32 #[iv p1, iv p2, iv p3, iv p4, iv p5, iv p6, iv 0, iv 3, .unset, .unset, .unset, .unset, .unset, .unset, .unset, .unset] [(.int p3)]))
        rw [(((if_pos hb149).trans rfl) : (if (p1 &&& (8 : Int32)) = (0 : Int32) then p3 else p2) = p3)] at J101
        exact J101 _ _ X0 e0 N0
      · refine G1 (XS.ifNo X0.here hx rfl (hb hby at_24) rfl ((if0 _ _).trans (feq hb149).1)) ?_
        show Gs p e below QQ s₁ m 27 #[iv p1, iv p2, iv p3, iv p4, iv p5, iv p6, iv 0, iv 3, .unset, .unset, .unset, .unset, .unset, .unset, .unset, .unset] []
        refine G1 (XS.iloadN X0.here hx rfl (hb hby at_27) rfl) ?_
        refine G1 (XS.goto X0.here hx rfl (pc0 := 28) (pc' := 32) rfl (hb hby at_28) (by decide) (by decide)) ?_
        show Goes p e below QQ (s₁.setTop (mkF m 32 #[iv p1, iv p2, iv p3, iv p4, iv p5, iv p6, iv 0, iv 3, .unset, .unset, .unset, .unset, .unset, .unset, .unset, .unset] [(.int p2)]))
        rw [(((if_neg hb149).trans rfl) : (if (p1 &&& (8 : Int32)) = (0 : Int32) then p3 else p2) = p2)] at J101
        exact J101 _ _ X0 e0 N0
  · refine G1 (XS.ifNo X0.here hx rfl (hb hby at_3) rfl ((if0 _ _).trans (feq hb1).1)) ?_
    show Gs p e below QQ s₁ m 6 #[iv p1, iv p2, iv p3, iv p4, iv p5, iv p6, .unset, .unset, .unset, .unset, .unset, .unset, .unset, .unset, .unset, .unset] []
    refine G1 (XS.iconst X0.here hx rfl (hb hby at_6)) ?_
    refine G1 (XS.goto X0.here hx rfl (pc0 := 7) (pc' := 11) rfl (hb hby at_7) (by decide) (by decide)) ?_
    refine G1 (XS.istore X0.here hx rfl (hb hby at_11) rfl (l' := #[iv p1, iv p2, iv p3, iv p4, iv p5, iv p6, iv 1, .unset, .unset, .unset, .unset, .unset, .unset, .unset, .unset, .unset]) rfl) ?_
    show Gs p e below QQ s₁ m 13 #[iv p1, iv p2, iv p3, iv p4, iv p5, iv p6, iv 1, .unset, .unset, .unset, .unset, .unset, .unset, .unset, .unset, .unset] []
    refine G1 (XS.iloadN X0.here hx rfl (hb hby at_13) rfl) ?_
    refine G1 (XS.iconst X0.here hx rfl (hb hby at_14)) ?_
    show Gs p e below QQ s₁ m 15 #[iv p1, iv p2, iv p3, iv p4, iv p5, iv p6, iv 1, .unset, .unset, .unset, .unset, .unset, .unset, .unset, .unset, .unset] [(.int 1), (.int p1)]
    refine G1 (XS.iushr X0.here hx rfl (hb hby at_15) rfl) ?_
    show Gs p e below QQ s₁ m 16 #[iv p1, iv p2, iv p3, iv p4, iv p5, iv p6, iv 1, .unset, .unset, .unset, .unset, .unset, .unset, .unset, .unset, .unset] [(.int ((p1.toUInt32 >>> ((1 : Int32) &&& 31).toUInt32).toInt32))]
    refine G1 (XS.iconst X0.here hx rfl (hb hby at_16)) ?_
    show Gs p e below QQ s₁ m 17 #[iv p1, iv p2, iv p3, iv p4, iv p5, iv p6, iv 1, .unset, .unset, .unset, .unset, .unset, .unset, .unset, .unset, .unset] [(.int 3), (.int ((p1.toUInt32 >>> ((1 : Int32) &&& 31).toUInt32).toInt32))]
    refine G1 (XS.iand X0.here hx rfl (hb hby at_17) rfl) ?_
    show Gs p e below QQ s₁ m 18 #[iv p1, iv p2, iv p3, iv p4, iv p5, iv p6, iv 1, .unset, .unset, .unset, .unset, .unset, .unset, .unset, .unset, .unset] [(.int (((p1.toUInt32 >>> ((1 : Int32) &&& 31).toUInt32).toInt32) &&& (3 : Int32)))]
    refine G1 (XS.istore X0.here hx rfl (hb hby at_18) rfl (l' := #[iv p1, iv p2, iv p3, iv p4, iv p5, iv p6, iv 1, iv (((p1.toUInt32 >>> ((1 : Int32) &&& 31).toUInt32).toInt32) &&& (3 : Int32)), .unset, .unset, .unset, .unset, .unset, .unset, .unset, .unset]) rfl) ?_
    show Goes p e below QQ (s₁.setTop (mkF m 20 #[iv p1, iv p2, iv p3, iv p4, iv p5, iv p6, iv 1, iv (((p1.toUInt32 >>> ((1 : Int32) &&& 31).toUInt32).toInt32) &&& (3 : Int32)), .unset, .unset, .unset, .unset, .unset, .unset, .unset, .unset] []))
    rcases own_four ((p1.toUInt32 >>> ((1 : Int32) &&& 31).toUInt32).toInt32) with hk | hk | hk | hk
    · rw [hk]
      show Goes p e below QQ (s₁.setTop (mkF m 20 #[iv p1, iv p2, iv p3, iv p4, iv p5, iv p6, iv 1, iv 0, .unset, .unset, .unset, .unset, .unset, .unset, .unset, .unset] []))
      refine G1 (XS.iloadN X0.here hx rfl (hb hby at_20) rfl) ?_
      refine G1 (XS.bipush X0.here hx rfl (hb hby at_21)) ?_
      show Gs p e below QQ s₁ m 23 #[iv p1, iv p2, iv p3, iv p4, iv p5, iv p6, iv 1, iv 0, .unset, .unset, .unset, .unset, .unset, .unset, .unset, .unset] [(.int 8), (.int p1)]
      refine G1 (XS.iand X0.here hx rfl (hb hby at_23) rfl) ?_
      show Goes p e below QQ (s₁.setTop (mkF m 24 #[iv p1, iv p2, iv p3, iv p4, iv p5, iv p6, iv 1, iv 0, .unset, .unset, .unset, .unset, .unset, .unset, .unset, .unset] [(.int (p1 &&& (8 : Int32)))]))
      have J150 : ∀ (TJ150 : State) (lJ150 : List Loc), Stand p l e room_1 s m #[(.int p1), (.int p2), (.int p3), (.int p4), (.int p5), (.int p6)] below meth c TJ150 lJ150 0 0 → TJ150.heap = h0 → Fr n0 lJ150 → Goes p e below QQ (TJ150.setTop (mkF m 32 #[iv p1, iv p2, iv p3, iv p4, iv p5, iv p6, iv 1, iv 0, .unset, .unset, .unset, .unset, .unset, .unset, .unset, .unset] [(.int (if (p1 &&& (8 : Int32)) = (0 : Int32) then p3 else p2))])) := by
        intro TJ150 lJ150 XJ150 eJ150 NJ150
        refine G1 (XS.istore XJ150.here hx rfl (hb hby at_32) rfl (l' := #[iv p1, iv p2, iv p3, iv p4, iv p5, iv p6, iv 1, iv 0, iv (if (p1 &&& (8 : Int32)) = (0 : Int32) then p3 else p2), .unset, .unset, .unset, .unset, .unset, .unset, .unset]) rfl) ?_
        refine G1 (XS.iloadN XJ150.here hx rfl (hb hby at_34) rfl) ?_
        refine G1 (XS.bipush XJ150.here hx rfl (hb hby at_35)) ?_
        show Gs p e below QQ TJ150 m 37 #[iv p1, iv p2, iv p3, iv p4, iv p5, iv p6, iv 1, iv 0, iv (if (p1 &&& (8 : Int32)) = (0 : Int32) then p3 else p2), .unset, .unset, .unset, .unset, .unset, .unset, .unset] [(.int 16), (.int p1)]
        refine G1 (XS.iand XJ150.here hx rfl (hb hby at_37) rfl) ?_
        show Goes p e below QQ (TJ150.setTop (mkF m 38 #[iv p1, iv p2, iv p3, iv p4, iv p5, iv p6, iv 1, iv 0, iv (if (p1 &&& (8 : Int32)) = (0 : Int32) then p3 else p2), .unset, .unset, .unset, .unset, .unset, .unset, .unset] [(.int (p1 &&& (16 : Int32)))]))
        have J151 : ∀ (TJ151 : State) (lJ151 : List Loc), Stand p l e room_1 s m #[(.int p1), (.int p2), (.int p3), (.int p4), (.int p5), (.int p6)] below meth c TJ151 lJ151 0 0 → TJ151.heap = h0 → Fr n0 lJ151 → Goes p e below QQ (TJ151.setTop (mkF m 58 #[iv p1, iv p2, iv p3, iv p4, iv p5, iv p6, iv 1, iv 0, iv (if (p1 &&& (8 : Int32)) = (0 : Int32) then p3 else p2), .unset, .unset, .unset, .unset, .unset, .unset, .unset] [(.int (if (p1 &&& (16 : Int32)) = (0 : Int32) then (if (p1 &&& (32 : Int32)) = (0 : Int32) then p4 else (if (p1 &&& (8 : Int32)) = (0 : Int32) then p3 else p2)) else p2))])) := by
          intro TJ151 lJ151 XJ151 eJ151 NJ151
          refine G1 (XS.istore XJ151.here hx rfl (hb hby at_58) rfl (l' := #[iv p1, iv p2, iv p3, iv p4, iv p5, iv p6, iv 1, iv 0, iv (if (p1 &&& (8 : Int32)) = (0 : Int32) then p3 else p2), iv (if (p1 &&& (16 : Int32)) = (0 : Int32) then (if (p1 &&& (32 : Int32)) = (0 : Int32) then p4 else (if (p1 &&& (8 : Int32)) = (0 : Int32) then p3 else p2)) else p2), .unset, .unset, .unset, .unset, .unset, .unset]) rfl) ?_
          show Goes p e below QQ (TJ151.setTop (mkF m 60 #[iv p1, iv p2, iv p3, iv p4, iv p5, iv p6, iv 1, iv 0, iv (if (p1 &&& (8 : Int32)) = (0 : Int32) then p3 else p2), iv (if (p1 &&& (16 : Int32)) = (0 : Int32) then (if (p1 &&& (32 : Int32)) = (0 : Int32) then p4 else (if (p1 &&& (8 : Int32)) = (0 : Int32) then p3 else p2)) else p2), .unset, .unset, .unset, .unset, .unset, .unset] []))
          generalize (if (p1 &&& (16 : Int32)) = (0 : Int32) then (if (p1 &&& (32 : Int32)) = (0 : Int32) then p4 else (if (p1 &&& (8 : Int32)) = (0 : Int32) then p3 else p2)) else p2) = g3
          generalize (if (p1 &&& (8 : Int32)) = (0 : Int32) then p3 else p2) = g2
          show Goes p e below QQ (TJ151.setTop (mkF m 60 #[iv p1, iv p2, iv p3, iv p4, iv p5, iv p6, iv 1, iv 0, iv g2, iv g3, .unset, .unset, .unset, .unset, .unset, .unset] []))
          refine G1 (XS.iload XJ151.here hx rfl (hb hby at_60) rfl) ?_
          show Gs p e below QQ TJ151 m 62 #[iv p1, iv p2, iv p3, iv p4, iv p5, iv p6, iv 1, iv 0, iv g2, iv g3, .unset, .unset, .unset, .unset, .unset, .unset] [(.int 1)]
          refine G1 (XS.ifNo XJ151.here hx rfl (hb hby at_62) rfl ((if0 _ _).trans (feq (by decide)).1)) ?_
          show Gs p e below QQ TJ151 m 65 #[iv p1, iv p2, iv p3, iv p4, iv p5, iv p6, iv 1, iv 0, iv g2, iv g3, .unset, .unset, .unset, .unset, .unset, .unset] []
          refine G1 (XS.bipush XJ151.here hx rfl (hb hby at_65)) ?_
          refine G1 (XS.iload XJ151.here hx rfl (hb hby at_67) rfl) ?_
          refine G1 (XS.bipush XJ151.here hx rfl (hb hby at_69)) ?_
          show Gs p e below QQ TJ151 m 71 #[iv p1, iv p2, iv p3, iv p4, iv p5, iv p6, iv 1, iv 0, iv g2, iv g3, .unset, .unset, .unset, .unset, .unset, .unset] [(.int 7), (.int p6), (.int 9)]
          refine G1 (XS.iand XJ151.here hx rfl (hb hby at_71) rfl) ?_
          show Gs p e below QQ TJ151 m 72 #[iv p1, iv p2, iv p3, iv p4, iv p5, iv p6, iv 1, iv 0, iv g2, iv g3, .unset, .unset, .unset, .unset, .unset, .unset] [(.int (p6 &&& (7 : Int32))), (.int 9)]
          refine G1 (XS.iadd XJ151.here hx rfl (hb hby at_72) rfl) ?_
          show Gs p e below QQ TJ151 m 73 #[iv p1, iv p2, iv p3, iv p4, iv p5, iv p6, iv 1, iv 0, iv g2, iv g3, .unset, .unset, .unset, .unset, .unset, .unset] [(.int ((9 : Int32) + (p6 &&& (7 : Int32))))]
          refine G1 (XS.goto XJ151.here hx rfl (pc0 := 73) (pc' := 84) rfl (hb hby at_73) (by decide) (by decide)) ?_
          refine G1 (XS.istore XJ151.here hx rfl (hb hby at_84) rfl (l' := #[iv p1, iv p2, iv p3, iv p4, iv p5, iv p6, iv 1, iv 0, iv g2, iv g3, iv ((9 : Int32) + (p6 &&& (7 : Int32))), .unset, .unset, .unset, .unset, .unset]) rfl) ?_
          show Goes p e below QQ (TJ151.setTop (mkF m 86 #[iv p1, iv p2, iv p3, iv p4, iv p5, iv p6, iv 1, iv 0, iv g2, iv g3, iv ((9 : Int32) + (p6 &&& (7 : Int32))), .unset, .unset, .unset, .unset, .unset] []))
          obtain ⟨T152, h152, X152, e152, E152, A152, D152, -, st152⟩ := newO XJ151 hx hZ hown (wI hw 0 rfl) (wI hw 1 rfl) (wI hw 2 rfl) eJ151 (g := (mkF m 86 #[iv p1, iv p2, iv p3, iv p4, iv p5, iv p6, iv 1, iv 0, iv g2, iv g3, iv ((9 : Int32) + (p6 &&& (7 : Int32))), .unset, .unset, .unset, .unset, .unset] [])) rfl (hb hby at_86) (by decide) (by decide)
          obtain ⟨b152, g152⟩ : ∃ z, z = h0.size := ⟨_, rfl⟩
          rw [← g152] at A152 D152 st152
          have sz_b152 : h0.size ≤ b152 := Nat.le_trans K0.1 (Nat.le_of_eq g152.symm)
          have g_b152 : n0 ≤ b152 := Nat.le_trans Z0 sz_b152
          have K152 := K0.ext E152
          have X152 : Stand p l e room_1 s m #[(.int p1), (.int p2), (.int p3), (.int p4), (.int p5), (.int p6)] below meth c T152 _ 1 4 := X152
          have F_153 : Fld Z h152 b152 "com/example/bindery/bindery/PartIndex" "hashes" "[I" .null := D152 (Or.inl (wI hw 22 rfl)) (ty := (.array .int)) (by decide)
          have F_154 : Fld Z h152 b152 "com/example/bindery/bindery/PartIndex" "slots" "[I" .null := D152 (Or.inl (wI hw 30 rfl)) (ty := (.array .int)) (by decide)
          have F_155 : Fld Z h152 b152 "com/example/bindery/bindery/PartIndex" "size" "I" (.int 0) := D152 (Or.inl (wI hw 32 rfl)) (ty := .int) (by decide)
          have F_156 : Fld Z h152 b152 "com/example/bindery/bindery/PartIndex" "shift" "I" (.int 0) := D152 (Or.inl (wI hw 61 rfl)) (ty := .int) (by decide)
          refine Goes.on (fun t k => st152 t k) ?_
          show Goes p e below QQ (T152.setTop (mkF m 89 #[iv p1, iv p2, iv p3, iv p4, iv p5, iv p6, iv 1, iv 0, iv g2, iv g3, iv ((9 : Int32) + (p6 &&& (7 : Int32))), .unset, .unset, .unset, .unset, .unset] [(.ref b152)]))
          refine G1 (XS.dup X152.here hx rfl (hb hby at_89) rfl rfl) ?_
          refine G1 (XS.iload X152.here hx rfl (hb hby at_90) rfl) ?_
          show Goes p e below QQ (T152.setTop (mkF m 92 #[iv p1, iv p2, iv p3, iv p4, iv p5, iv p6, iv 1, iv 0, iv g2, iv g3, iv ((9 : Int32) + (p6 &&& (7 : Int32))), .unset, .unset, .unset, .unset, .unset] [(.int ((9 : Int32) + (p6 &&& (7 : Int32)))), (.ref b152), (.ref b152)]))
          obtain ⟨nn, hr, hn⟩ := own_room1 p6
          obtain ⟨_, _, ⟨T157, L157, k157, n157⟩, -, X157, ⟨Lc157, hQ157, l157, y157, z157⟩, st157⟩ := X152.specialBack hx (y := (⟨"com/example/bindery/bindery/PartIndex", "<init>", "(I)V"⟩ : MethodName)) rfl hown (mvT hZ (wI hw 3 rfl)) (mvT hZ (wI hw 4 rfl)) (mvT hZ (wI hw 5 rfl)) (by decide) (backOf (W := 1) (rmIn1 l Z a0 hw [] b152 ((9 : Int32) + (p6 &&& (7 : Int32))) nn h152 n0 (Nat.le_trans Z0 K152.1) A152 F_153 F_154 F_156 F_155 g_b152 hr hn) hZ (wI hw 5 rfl) (wI hw 2 rfl) (by decide) (by decide)) (g := (mkF m 92 #[iv p1, iv p2, iv p3, iv p4, iv p5, iv p6, iv 1, iv 0, iv g2, iv g3, iv ((9 : Int32) + (p6 &&& (7 : Int32))), .unset, .unset, .unset, .unset, .unset] [(.int ((9 : Int32) + (p6 &&& (7 : Int32)))), (.ref b152), (.ref b152)])) rfl (by rw [hml]; rfl) (Steps.refl _) (a := b152) (argsL := [(.int ((9 : Int32) + (p6 &&& (7 : Int32))))]) (rest := [(.ref b152)]) (lenOf pd_2 rfl) rfl (by show 2 * 0 + _ ≤ _; exact Nat.le_of_eq rfl) (hb hby at_92) (fun _ _ => ⟨rfl, e152, (by decide : 1 + 2 ≤ _), (by decide : 4 + 48 ≤ _)⟩)
          dsimp only [Pt.U, Pt.locs, Pt.cells, Pt.slots] at X157 l157 y157 z157 st157 hQ157
          have l157 := l157.symm; have y157 := y157.symm; have z157 := z157.symm; subst l157 y157 z157
          have X157 : Stand p l e room_1 s m #[(.int p1), (.int p2), (.int p3), (.int p4), (.int p5), (.int p6)] below meth c T157 _ 3 52 := X157
          obtain ⟨bh, kh, bd, kd, rfl, M157, Kc, szh, szd, nehd, ⟨hashes_c, slots_c, shift_c, size_c⟩, Vh, Vd⟩ := hQ157
          have sz_bh : h0.size ≤ bh := Nat.le_trans K152.1 szh
          have g_bh : n0 ≤ bh := Nat.le_trans Z0 sz_bh
          have ne_b152_bh : b152 ≠ bh := Nat.ne_of_lt (Nat.lt_of_lt_of_le A152.lt szh)
          have sz_bd : h0.size ≤ bd := Nat.le_trans K152.1 szd
          have g_bd : n0 ≤ bd := Nat.le_trans Z0 sz_bd
          have ne_b152_bd : b152 ≠ bd := Nat.ne_of_lt (Nat.lt_of_lt_of_le A152.lt szd)
          have N157 := Fr.app NJ151 M157
          refine Goes.on (fun t k => st157.trans k) ?_
          have A152_158 := A152.keep Kc
          have K163 := K152.trans Kc (allS (Or.inr sz_b152) all0)
          show Goes p e below QQ (T157.setTop (mkF m 95 #[iv p1, iv p2, iv p3, iv p4, iv p5, iv p6, iv 1, iv 0, iv g2, iv g3, iv ((9 : Int32) + (p6 &&& (7 : Int32))), .unset, .unset, .unset, .unset, .unset] [(.ref b152)]))
          obtain ⟨S0, hS0⟩ : ∃ z : List Value, z = (List.replicate 32 (.int (0 : Int32))) := ⟨_, rfl⟩
          rw [← hS0] at Vd
          have HS0 : IntS S0 := by rw [hS0]; exact own_S0
          show Goes p e below QQ (T157.setTop (mkF m 95 #[iv p1, iv p2, iv p3, iv p4, iv p5, iv p6, iv 1, iv 0, iv g2, iv g3, iv ((9 : Int32) + (p6 &&& (7 : Int32))), .unset, .unset, .unset, .unset, .unset] [(.ref b152)]))
          refine G1 (XS.astore X157.here hx rfl (hb hby at_95) rfl rfl (l' := #[iv p1, iv p2, iv p3, iv p4, iv p5, iv p6, iv 1, iv 0, iv g2, iv g3, iv ((9 : Int32) + (p6 &&& (7 : Int32))), rv b152, .unset, .unset, .unset, .unset]) rfl) ?_
          refine G1 (XS.iload X157.here hx rfl (hb hby at_97) rfl) ?_
          refine G1 (XS.iconst X157.here hx rfl (hb hby at_99)) ?_
          show Gs p e below QQ T157 m 100 #[iv p1, iv p2, iv p3, iv p4, iv p5, iv p6, iv 1, iv 0, iv g2, iv g3, iv ((9 : Int32) + (p6 &&& (7 : Int32))), rv b152, .unset, .unset, .unset, .unset] [(.int 1), (.int 0)]
          refine G1 (XS.icmpYes X157.here hx rfl (pc0 := 100) (pc' := 109) rfl (hb hby at_100) rfl (tlt (by decide)).1 (by decide) (by decide)) ?_
          show Gs p e below QQ T157 m 109 #[iv p1, iv p2, iv p3, iv p4, iv p5, iv p6, iv 1, iv 0, iv g2, iv g3, iv ((9 : Int32) + (p6 &&& (7 : Int32))), rv b152, .unset, .unset, .unset, .unset] []
          refine G1 (XS.iload X157.here hx rfl (hb hby at_109) rfl) ?_
          refine G1 (XS.iconst X157.here hx rfl (hb hby at_111)) ?_
          show Gs p e below QQ T157 m 112 #[iv p1, iv p2, iv p3, iv p4, iv p5, iv p6, iv 1, iv 0, iv g2, iv g3, iv ((9 : Int32) + (p6 &&& (7 : Int32))), rv b152, .unset, .unset, .unset, .unset] [(.int 2), (.int 0)]
          refine G1 (XS.icmpYes X157.here hx rfl (pc0 := 112) (pc' := 122) rfl (hb hby at_112) rfl (tlt (by decide)).1 (by decide) (by decide)) ?_
          show Gs p e below QQ T157 m 122 #[iv p1, iv p2, iv p3, iv p4, iv p5, iv p6, iv 1, iv 0, iv g2, iv g3, iv ((9 : Int32) + (p6 &&& (7 : Int32))), rv b152, .unset, .unset, .unset, .unset] []
          refine G1 (XS.iload X157.here hx rfl (hb hby at_122) rfl) ?_
          refine G1 (XS.iconst X157.here hx rfl (hb hby at_124)) ?_
          show Gs p e below QQ T157 m 125 #[iv p1, iv p2, iv p3, iv p4, iv p5, iv p6, iv 1, iv 0, iv g2, iv g3, iv ((9 : Int32) + (p6 &&& (7 : Int32))), rv b152, .unset, .unset, .unset, .unset] [(.int 3), (.int 0)]
          refine G1 (XS.icmpYes X157.here hx rfl (pc0 := 125) (pc' := 135) rfl (hb hby at_125) rfl (tlt (by decide)).1 (by decide) (by decide)) ?_
          show Gs p e below QQ T157 m 135 #[iv p1, iv p2, iv p3, iv p4, iv p5, iv p6, iv 1, iv 0, iv g2, iv g3, iv ((9 : Int32) + (p6 &&& (7 : Int32))), rv b152, .unset, .unset, .unset, .unset] []
          refine G1 (XS.iload X157.here hx rfl (hb hby at_135) rfl) ?_
          show Gs p e below QQ T157 m 137 #[iv p1, iv p2, iv p3, iv p4, iv p5, iv p6, iv 1, iv 0, iv g2, iv g3, iv ((9 : Int32) + (p6 &&& (7 : Int32))), rv b152, .unset, .unset, .unset, .unset] [(.int 1)]
          refine G1 (XS.ifYes X157.here hx rfl (pc0 := 137) (pc' := 228) rfl (hb hby at_137) rfl ((if0 _ _).trans (feq (by decide)).2) (by decide) (by decide)) ?_
          show Gs p e below QQ T157 m 228 #[iv p1, iv p2, iv p3, iv p4, iv p5, iv p6, iv 1, iv 0, iv g2, iv g3, iv ((9 : Int32) + (p6 &&& (7 : Int32))), rv b152, .unset, .unset, .unset, .unset] []
          refine G1 (XS.aload X157.here hx rfl (hb hby at_228) rfl rfl) ?_
          refine G1 (XS.iloadN X157.here hx rfl (hb hby at_230) rfl) ?_
          show Goes p e below QQ (T157.setTop (mkF m 231 #[iv p1, iv p2, iv p3, iv p4, iv p5, iv p6, iv 1, iv 0, iv g2, iv g3, iv ((9 : Int32) + (p6 &&& (7 : Int32))), rv b152, .unset, .unset, .unset, .unset] [(.int p2), (.ref b152)]))
          obtain ⟨cq164, kq164, q164a, q164b, q164c⟩ := isOf hZ rfl A152_158
          obtain ⟨_, _, ⟨T164, L164, k164, n164⟩, -, X164, ⟨Lc164, hQ164, l164, y164, z164⟩, st164⟩ := X157.virtualBack hx (y := (⟨"com/example/bindery/bindery/PartIndex", "start", "(I)I"⟩ : MethodName)) (z := (⟨"com/example/bindery/bindery/PartIndex", "start", "(I)I"⟩ : MethodName)) hown (mvT hZ (wI hw 77 rfl)) (mvT hZ (wI hw 67 rfl)) (notFace_of_selects (args := #[]) (mvT hZ (wI hw 69 rfl))) (mvT hZ (wI hw 69 rfl)) (mvT hZ (wI hw 68 rfl)) (by decide) (backOf (W := 0) (rmSt l Z a0 hw [] b152 p2 bd T157.heap n0 (Nat.le_trans Z0 K163.1) slots_c shift_c) hZ (wI hw 70 rfl) (wI hw 2 rfl) (by decide) (by decide)) q164a q164c (g := (mkF m 231 #[iv p1, iv p2, iv p3, iv p4, iv p5, iv p6, iv 1, iv 0, iv g2, iv g3, iv ((9 : Int32) + (p6 &&& (7 : Int32))), rv b152, .unset, .unset, .unset, .unset] [(.int p2), (.ref b152)])) rfl (by rw [hml]; rfl) (Steps.refl _) (argsL := [(.int p2)]) (rest := []) (lenOf pd_1 rfl) rfl (by show 2 * 0 + _ ≤ _; exact Nat.le_of_eq rfl) (hb hby at_231) (fun _ _ => ⟨rfl, rfl, (by decide : 3 + 0 ≤ _), (by decide : 52 + 0 ≤ _)⟩)
          dsimp only [Pt.U, Pt.locs, Pt.cells, Pt.slots] at X164 l164 y164 z164 st164 hQ164
          have l164 := l164.symm; have y164 := y164.symm; have z164 := z164.symm; subst l164 y164 z164
          have X164 : Stand p l e room_1 s m #[(.int p1), (.int p2), (.int p3), (.int p4), (.int p5), (.int p6)] below meth c T164 _ 3 52 := X164
          obtain ⟨rfl, M164, e164⟩ := hQ164
          have N164 := Fr.app N157 M164
          refine Goes.on (fun t k => st164.trans k) ?_
          show Goes p e below QQ (T164.setTop (mkF m 234 #[iv p1, iv p2, iv p3, iv p4, iv p5, iv p6, iv 1, iv 0, iv g2, iv g3, iv ((9 : Int32) + (p6 &&& (7 : Int32))), rv b152, .unset, .unset, .unset, .unset] [(.int (stF p2))]))
          refine G1 (XS.istore X164.here hx rfl (hb hby at_234) rfl (l' := #[iv p1, iv p2, iv p3, iv p4, iv p5, iv p6, iv 1, iv 0, iv g2, iv g3, iv ((9 : Int32) + (p6 &&& (7 : Int32))), rv b152, iv (stF p2), .unset, .unset, .unset]) rfl) ?_
          refine G1 (XS.aload X164.here hx rfl (hb hby at_236) rfl rfl) ?_
          refine G1 (XS.iload X164.here hx rfl (hb hby at_238) rfl) ?_
          show Goes p e below QQ (T164.setTop (mkF m 240 #[iv p1, iv p2, iv p3, iv p4, iv p5, iv p6, iv 1, iv 0, iv g2, iv g3, iv ((9 : Int32) + (p6 &&& (7 : Int32))), rv b152, iv (stF p2), .unset, .unset, .unset] [(.int g2), (.ref b152)]))
          obtain ⟨cq165, kq165, q165a, q165b, q165c⟩ := isOf hZ e164 A152_158
          obtain ⟨_, _, ⟨T165, L165, k165, n165⟩, -, X165, ⟨Lc165, hQ165, l165, y165, z165⟩, st165⟩ := X164.virtualBack hx (y := (⟨"com/example/bindery/bindery/PartIndex", "start", "(I)I"⟩ : MethodName)) (z := (⟨"com/example/bindery/bindery/PartIndex", "start", "(I)I"⟩ : MethodName)) hown (mvT hZ (wI hw 77 rfl)) (mvT hZ (wI hw 67 rfl)) (notFace_of_selects (args := #[]) (mvT hZ (wI hw 69 rfl))) (mvT hZ (wI hw 69 rfl)) (mvT hZ (wI hw 68 rfl)) (by decide) (backOf (W := 0) (rmSt l Z a0 hw [] b152 g2 bd T157.heap n0 (Nat.le_trans Z0 K163.1) slots_c shift_c) hZ (wI hw 70 rfl) (wI hw 2 rfl) (by decide) (by decide)) q165a q165c (g := (mkF m 240 #[iv p1, iv p2, iv p3, iv p4, iv p5, iv p6, iv 1, iv 0, iv g2, iv g3, iv ((9 : Int32) + (p6 &&& (7 : Int32))), rv b152, iv (stF p2), .unset, .unset, .unset] [(.int g2), (.ref b152)])) rfl (by rw [hml]; rfl) (Steps.refl _) (argsL := [(.int g2)]) (rest := []) (lenOf pd_1 rfl) rfl (by show 2 * 0 + _ ≤ _; exact Nat.le_of_eq rfl) (hb hby at_240) (fun _ _ => ⟨rfl, e164, (by decide : 3 + 0 ≤ _), (by decide : 52 + 0 ≤ _)⟩)
          dsimp only [Pt.U, Pt.locs, Pt.cells, Pt.slots] at X165 l165 y165 z165 st165 hQ165
          have l165 := l165.symm; have y165 := y165.symm; have z165 := z165.symm; subst l165 y165 z165
          have X165 : Stand p l e room_1 s m #[(.int p1), (.int p2), (.int p3), (.int p4), (.int p5), (.int p6)] below meth c T165 _ 3 52 := X165
          obtain ⟨rfl, M165, e165⟩ := hQ165
          have N165 := Fr.app N164 M165
          refine Goes.on (fun t k => st165.trans k) ?_
          show Goes p e below QQ (T165.setTop (mkF m 243 #[iv p1, iv p2, iv p3, iv p4, iv p5, iv p6, iv 1, iv 0, iv g2, iv g3, iv ((9 : Int32) + (p6 &&& (7 : Int32))), rv b152, iv (stF p2), .unset, .unset, .unset] [(.int (stF g2))]))
          refine G1 (XS.istore X165.here hx rfl (hb hby at_243) rfl (l' := #[iv p1, iv p2, iv p3, iv p4, iv p5, iv p6, iv 1, iv 0, iv g2, iv g3, iv ((9 : Int32) + (p6 &&& (7 : Int32))), rv b152, iv (stF p2), iv (stF g2), .unset, .unset]) rfl) ?_
          refine G1 (XS.iload X165.here hx rfl (hb hby at_245) rfl) ?_
          refine G1 (XS.iload X165.here hx rfl (hb hby at_247) rfl) ?_
          show Goes p e below QQ (T165.setTop (mkF m 249 #[iv p1, iv p2, iv p3, iv p4, iv p5, iv p6, iv 1, iv 0, iv g2, iv g3, iv ((9 : Int32) + (p6 &&& (7 : Int32))), rv b152, iv (stF p2), iv (stF g2), .unset, .unset] [(.int (stF p2)), (.int (stF g2))]))
          have J166 : ∀ (TJ166 : State) (lJ166 : List Loc), Stand p l e room_1 s m #[(.int p1), (.int p2), (.int p3), (.int p4), (.int p5), (.int p6)] below meth c TJ166 lJ166 3 52 → TJ166.heap = T157.heap → Fr n0 lJ166 → Goes p e below QQ (TJ166.setTop (mkF m 261 #[iv p1, iv p2, iv p3, iv p4, iv p5, iv p6, iv 1, iv 0, iv g2, iv g3, iv ((9 : Int32) + (p6 &&& (7 : Int32))), rv b152, iv (stF p2), iv (if (stF g2) = (stF p2) then (((stF g2) + (1 : Int32)) &&& (31 : Int32)) else (stF g2)), .unset, .unset] [])) := by
            intro TJ166 lJ166 XJ166 eJ166 NJ166
            refine G1 (XS.aload XJ166.here hx rfl (hb hby at_261) rfl rfl) ?_
            refine G1 (XS.iload XJ166.here hx rfl (hb hby at_263) rfl) ?_
            show Goes p e below QQ (TJ166.setTop (mkF m 265 #[iv p1, iv p2, iv p3, iv p4, iv p5, iv p6, iv 1, iv 0, iv g2, iv g3, iv ((9 : Int32) + (p6 &&& (7 : Int32))), rv b152, iv (stF p2), iv (if (stF g2) = (stF p2) then (((stF g2) + (1 : Int32)) &&& (31 : Int32)) else (stF g2)), .unset, .unset] [(.int g3), (.ref b152)]))
            obtain ⟨cq167, kq167, q167a, q167b, q167c⟩ := isOf hZ eJ166 A152_158
            obtain ⟨_, _, ⟨T167, L167, k167, n167⟩, -, X167, ⟨Lc167, hQ167, l167, y167, z167⟩, st167⟩ := XJ166.virtualBack hx (y := (⟨"com/example/bindery/bindery/PartIndex", "start", "(I)I"⟩ : MethodName)) (z := (⟨"com/example/bindery/bindery/PartIndex", "start", "(I)I"⟩ : MethodName)) hown (mvT hZ (wI hw 77 rfl)) (mvT hZ (wI hw 67 rfl)) (notFace_of_selects (args := #[]) (mvT hZ (wI hw 69 rfl))) (mvT hZ (wI hw 69 rfl)) (mvT hZ (wI hw 68 rfl)) (by decide) (backOf (W := 0) (rmSt l Z a0 hw [] b152 g3 bd T157.heap n0 (Nat.le_trans Z0 K163.1) slots_c shift_c) hZ (wI hw 70 rfl) (wI hw 2 rfl) (by decide) (by decide)) q167a q167c (g := (mkF m 265 #[iv p1, iv p2, iv p3, iv p4, iv p5, iv p6, iv 1, iv 0, iv g2, iv g3, iv ((9 : Int32) + (p6 &&& (7 : Int32))), rv b152, iv (stF p2), iv (if (stF g2) = (stF p2) then (((stF g2) + (1 : Int32)) &&& (31 : Int32)) else (stF g2)), .unset, .unset] [(.int g3), (.ref b152)])) rfl (by rw [hml]; rfl) (Steps.refl _) (argsL := [(.int g3)]) (rest := []) (lenOf pd_1 rfl) rfl (by show 2 * 0 + _ ≤ _; exact Nat.le_of_eq rfl) (hb hby at_265) (fun _ _ => ⟨rfl, eJ166, (by decide : 3 + 0 ≤ _), (by decide : 52 + 0 ≤ _)⟩)
            dsimp only [Pt.U, Pt.locs, Pt.cells, Pt.slots] at X167 l167 y167 z167 st167 hQ167
            have l167 := l167.symm; have y167 := y167.symm; have z167 := z167.symm; subst l167 y167 z167
            have X167 : Stand p l e room_1 s m #[(.int p1), (.int p2), (.int p3), (.int p4), (.int p5), (.int p6)] below meth c T167 _ 3 52 := X167
            obtain ⟨rfl, M167, e167⟩ := hQ167
            have N167 := Fr.app NJ166 M167
            refine Goes.on (fun t k => st167.trans k) ?_
            show Goes p e below QQ (T167.setTop (mkF m 268 #[iv p1, iv p2, iv p3, iv p4, iv p5, iv p6, iv 1, iv 0, iv g2, iv g3, iv ((9 : Int32) + (p6 &&& (7 : Int32))), rv b152, iv (stF p2), iv (if (stF g2) = (stF p2) then (((stF g2) + (1 : Int32)) &&& (31 : Int32)) else (stF g2)), .unset, .unset] [(.int (stF g3))]))
            refine G1 (XS.istore X167.here hx rfl (hb hby at_268) rfl (l' := #[iv p1, iv p2, iv p3, iv p4, iv p5, iv p6, iv 1, iv 0, iv g2, iv g3, iv ((9 : Int32) + (p6 &&& (7 : Int32))), rv b152, iv (stF p2), iv (if (stF g2) = (stF p2) then (((stF g2) + (1 : Int32)) &&& (31 : Int32)) else (stF g2)), iv (stF g3), .unset]) rfl) ?_
            refine G1 (XS.iload X167.here hx rfl (hb hby at_270) rfl) ?_
            refine G1 (XS.iload X167.here hx rfl (hb hby at_272) rfl) ?_
            show Goes p e below QQ (T167.setTop (mkF m 274 #[iv p1, iv p2, iv p3, iv p4, iv p5, iv p6, iv 1, iv 0, iv g2, iv g3, iv ((9 : Int32) + (p6 &&& (7 : Int32))), rv b152, iv (stF p2), iv (if (stF g2) = (stF p2) then (((stF g2) + (1 : Int32)) &&& (31 : Int32)) else (stF g2)), iv (stF g3), .unset] [(.int (stF p2)), (.int (stF g3))]))
            have J168 : ∀ (TJ168 : State) (lJ168 : List Loc), Stand p l e room_1 s m #[(.int p1), (.int p2), (.int p3), (.int p4), (.int p5), (.int p6)] below meth c TJ168 lJ168 3 52 → TJ168.heap = T157.heap → Fr n0 lJ168 → Goes p e below QQ (TJ168.setTop (mkF m 316 #[iv p1, iv p2, iv p3, iv p4, iv p5, iv p6, iv 1, iv 0, iv g2, iv g3, iv ((9 : Int32) + (p6 &&& (7 : Int32))), rv b152, iv (stF p2), iv (if (stF g2) = (stF p2) then (((stF g2) + (1 : Int32)) &&& (31 : Int32)) else (stF g2)), iv (if (stF g3) = (stF p2) then (if (((stF g3) + (1 : Int32)) &&& (31 : Int32)) = (stF p2) then (((((stF g3) + (1 : Int32)) &&& (31 : Int32)) + (1 : Int32)) &&& (31 : Int32)) else (if (((stF g3) + (1 : Int32)) &&& (31 : Int32)) = (if (stF g2) = (stF p2) then (((stF g2) + (1 : Int32)) &&& (31 : Int32)) else (stF g2)) then (((((stF g3) + (1 : Int32)) &&& (31 : Int32)) + (1 : Int32)) &&& (31 : Int32)) else (((stF g3) + (1 : Int32)) &&& (31 : Int32)))) else (if (stF g3) = (if (stF g2) = (stF p2) then (((stF g2) + (1 : Int32)) &&& (31 : Int32)) else (stF g2)) then (if (((stF g3) + (1 : Int32)) &&& (31 : Int32)) = (stF p2) then (((((stF g3) + (1 : Int32)) &&& (31 : Int32)) + (1 : Int32)) &&& (31 : Int32)) else (if (((stF g3) + (1 : Int32)) &&& (31 : Int32)) = (if (stF g2) = (stF p2) then (((stF g2) + (1 : Int32)) &&& (31 : Int32)) else (stF g2)) then (((((stF g3) + (1 : Int32)) &&& (31 : Int32)) + (1 : Int32)) &&& (31 : Int32)) else (((stF g3) + (1 : Int32)) &&& (31 : Int32)))) else (stF g3))), .unset] [])) := by
              intro TJ168 lJ168 XJ168 eJ168 NJ168
              rw [own_Q3 p2 g2 g3]
              show Goes p e below QQ (TJ168.setTop (mkF m 316 #[iv p1, iv p2, iv p3, iv p4, iv p5, iv p6, iv 1, iv 0, iv g2, iv g3, iv ((9 : Int32) + (p6 &&& (7 : Int32))), rv b152, iv (stF p2), iv (if (stF g2) = (stF p2) then (((stF g2) + (1 : Int32)) &&& (31 : Int32)) else (stF g2)), iv (P3 p2 g2 g3), .unset] []))
              rw [own_Q2 p2 g2]
              show Goes p e below QQ (TJ168.setTop (mkF m 316 #[iv p1, iv p2, iv p3, iv p4, iv p5, iv p6, iv 1, iv 0, iv g2, iv g3, iv ((9 : Int32) + (p6 &&& (7 : Int32))), rv b152, iv (stF p2), iv (P2 p2 g2), iv (P3 p2 g2 g3), .unset] []))
              refine G1 (XS.iload XJ168.here hx rfl (hb hby at_316) rfl) ?_
              refine G1 (XS.bipush XJ168.here hx rfl (hb hby at_318)) ?_
              show Gs p e below QQ TJ168 m 320 #[iv p1, iv p2, iv p3, iv p4, iv p5, iv p6, iv 1, iv 0, iv g2, iv g3, iv ((9 : Int32) + (p6 &&& (7 : Int32))), rv b152, iv (stF p2), iv (P2 p2 g2), iv (P3 p2 g2 g3), .unset] [(.int 31), (.int p5)]
              refine G1 (XS.iand XJ168.here hx rfl (hb hby at_320) rfl) ?_
              show Gs p e below QQ TJ168 m 321 #[iv p1, iv p2, iv p3, iv p4, iv p5, iv p6, iv 1, iv 0, iv g2, iv g3, iv ((9 : Int32) + (p6 &&& (7 : Int32))), rv b152, iv (stF p2), iv (P2 p2 g2), iv (P3 p2 g2 g3), .unset] [(.int (p5 &&& (31 : Int32)))]
              refine G1 (XS.istore XJ168.here hx rfl (hb hby at_321) rfl (l' := #[iv p1, iv p2, iv p3, iv p4, iv p5, iv p6, iv 1, iv 0, iv g2, iv g3, iv ((9 : Int32) + (p6 &&& (7 : Int32))), rv b152, iv (stF p2), iv (P2 p2 g2), iv (P3 p2 g2 g3), iv (p5 &&& (31 : Int32))]) rfl) ?_
              refine G1 (XS.aload XJ168.here hx rfl (hb hby at_323) rfl rfl) ?_
              refine G1 (XS.iload XJ168.here hx rfl (hb hby at_325) rfl) ?_
              show Goes p e below QQ (TJ168.setTop (mkF m 327 #[iv p1, iv p2, iv p3, iv p4, iv p5, iv p6, iv 1, iv 0, iv g2, iv g3, iv ((9 : Int32) + (p6 &&& (7 : Int32))), rv b152, iv (stF p2), iv (P2 p2 g2), iv (P3 p2 g2 g3), iv (p5 &&& (31 : Int32))] [(.int (p5 &&& (31 : Int32))), (.ref b152)]))
              obtain ⟨cq169, kq169, q169a, q169b, q169c⟩ := isOf hZ eJ168 A152_158
              obtain ⟨_, _, ⟨T169, L169, k169, n169⟩, -, X169, ⟨Lc169, hQ169, l169, y169, z169⟩, st169⟩ := XJ168.virtualBack hx (y := (⟨"com/example/bindery/bindery/PartIndex", "entryAt", "(I)I"⟩ : MethodName)) (z := (⟨"com/example/bindery/bindery/PartIndex", "entryAt", "(I)I"⟩ : MethodName)) hown (mvT hZ (wI hw 24 rfl)) (mvT hZ (wI hw 25 rfl)) (notFace_of_selects (args := #[]) (mvT hZ (wI hw 27 rfl))) (mvT hZ (wI hw 27 rfl)) (mvT hZ (wI hw 26 rfl)) (by decide) (backOf (W := 0) (rmE1 l Z a0 hw [] b152 (p5 &&& (31 : Int32)) bd kd S0 (gi S0 (p5 &&& (31 : Int32))) T157.heap n0 (Nat.le_trans Z0 K163.1) slots_c Vd (own_m31 p5) (HS0.2 _)) hZ (wI hw 28 rfl) (wI hw 2 rfl) (by decide) (by decide)) q169a q169c (g := (mkF m 327 #[iv p1, iv p2, iv p3, iv p4, iv p5, iv p6, iv 1, iv 0, iv g2, iv g3, iv ((9 : Int32) + (p6 &&& (7 : Int32))), rv b152, iv (stF p2), iv (P2 p2 g2), iv (P3 p2 g2 g3), iv (p5 &&& (31 : Int32))] [(.int (p5 &&& (31 : Int32))), (.ref b152)])) rfl (by rw [hml]; rfl) (Steps.refl _) (argsL := [(.int (p5 &&& (31 : Int32)))]) (rest := []) (lenOf pd_1 rfl) rfl (by show 2 * 0 + _ ≤ _; exact Nat.le_of_eq rfl) (hb hby at_327) (fun _ _ => ⟨rfl, eJ168, (by decide : 3 + 0 ≤ _), (by decide : 52 + 0 ≤ _)⟩)
              dsimp only [Pt.U, Pt.locs, Pt.cells, Pt.slots] at X169 l169 y169 z169 st169 hQ169
              have l169 := l169.symm; have y169 := y169.symm; have z169 := z169.symm; subst l169 y169 z169
              have X169 : Stand p l e room_1 s m #[(.int p1), (.int p2), (.int p3), (.int p4), (.int p5), (.int p6)] below meth c T169 _ 3 52 := X169
              obtain ⟨rfl, M169, e169⟩ := hQ169
              have N169 := Fr.app NJ168 M169
              refine Goes.on (fun t k => st169.trans k) ?_
              show Goes p e below QQ (T169.setTop (mkF m 330 #[iv p1, iv p2, iv p3, iv p4, iv p5, iv p6, iv 1, iv 0, iv g2, iv g3, iv ((9 : Int32) + (p6 &&& (7 : Int32))), rv b152, iv (stF p2), iv (P2 p2 g2), iv (P3 p2 g2 g3), iv (p5 &&& (31 : Int32))] [(.int (entS (gi S0 (p5 &&& (31 : Int32)))))]))
              refine G1 (XS.iload X169.here hx rfl (hb hby at_330) rfl) ?_
              refine G1 (XS.iload X169.here hx rfl (hb hby at_332) rfl) ?_
              refine G1 (XS.iload X169.here hx rfl (hb hby at_334) rfl) ?_
              show Gs p e below QQ T169 m 336 #[iv p1, iv p2, iv p3, iv p4, iv p5, iv p6, iv 1, iv 0, iv g2, iv g3, iv ((9 : Int32) + (p6 &&& (7 : Int32))), rv b152, iv (stF p2), iv (P2 p2 g2), iv (P3 p2 g2 g3), iv (p5 &&& (31 : Int32))] [(.int (stF p2)), (.int 0), (.int (p5 &&& (31 : Int32))), (.int (entS (gi S0 (p5 &&& (31 : Int32)))))]
              refine G1 (XS.iload X169.here hx rfl (hb hby at_336) rfl) ?_
              refine G1 (XS.iload X169.here hx rfl (hb hby at_338) rfl) ?_
              show Goes p e below QQ (T169.setTop (mkF m 340 #[iv p1, iv p2, iv p3, iv p4, iv p5, iv p6, iv 1, iv 0, iv g2, iv g3, iv ((9 : Int32) + (p6 &&& (7 : Int32))), rv b152, iv (stF p2), iv (P2 p2 g2), iv (P3 p2 g2 g3), iv (p5 &&& (31 : Int32))] [(.int (P3 p2 g2 g3)), (.int (P2 p2 g2)), (.int (stF p2)), (.int 0), (.int (p5 &&& (31 : Int32))), (.int (entS (gi S0 (p5 &&& (31 : Int32)))))]))
              obtain ⟨_, _, ⟨T170, L170, k170, n170⟩, -, X170, ⟨Lc170, hQ170, l170, y170, z170⟩, st170⟩ := Jvm.LawKit.callS X169 hx (y := (⟨"com/example/bindery/bindery/PartIndexEntryAtPinLaw", "slot", "(IIIII)I"⟩ : MethodName)) hown (mvT hZ (wI hw 78 rfl)) (mvT hZ (wI hw 79 rfl)) (mvT hZ (wI hw 35 rfl)) (mvT hZ (wI hw 80 rfl)) (by decide) (backOf (W := 1) (rmSl l Z a0 hw [] (p5 &&& (31 : Int32)) (0 : Int32) (stF p2) (P2 p2 g2) (P3 p2 g2 g3) T157.heap n0 (Nat.le_trans Z0 K163.1) ) hZ (wI hw 80 rfl) (wI hw 35 rfl) (by decide) (by decide)) (g := (mkF m 340 #[iv p1, iv p2, iv p3, iv p4, iv p5, iv p6, iv 1, iv 0, iv g2, iv g3, iv ((9 : Int32) + (p6 &&& (7 : Int32))), rv b152, iv (stF p2), iv (P2 p2 g2), iv (P3 p2 g2 g3), iv (p5 &&& (31 : Int32))] [(.int (P3 p2 g2 g3)), (.int (P2 p2 g2)), (.int (stF p2)), (.int 0), (.int (p5 &&& (31 : Int32))), (.int (entS (gi S0 (p5 &&& (31 : Int32)))))])) rfl (by rw [hml]; rfl) (argsL := [(.int (p5 &&& (31 : Int32))), (.int 0), (.int (stF p2)), (.int (P2 p2 g2)), (.int (P3 p2 g2 g3))]) (rest := [(.int (entS (gi S0 (p5 &&& (31 : Int32)))))]) (lenOf pd_4 rfl) rfl (by show 2 * 0 + _ ≤ _; exact Nat.le_of_eq rfl) (hb hby at_340) (fun _ _ => ⟨rfl, e169, (by decide : 3 + 0 ≤ _), (by decide : 52 + 0 ≤ _)⟩)
              dsimp only [Pt.U, Pt.locs, Pt.cells, Pt.slots] at X170 l170 y170 z170 st170 hQ170
              have l170 := l170.symm; have y170 := y170.symm; have z170 := z170.symm; subst l170 y170 z170
              have X170 : Stand p l e room_1 s m #[(.int p1), (.int p2), (.int p3), (.int p4), (.int p5), (.int p6)] below meth c T170 _ 3 52 := X170
              obtain ⟨rfl, M170, e170⟩ := hQ170
              have N170 := Fr.app N169 M170
              refine Goes.on (fun t k => st170 _ k) ?_
              show Goes p e below QQ (T170.setTop (mkF m 343 #[iv p1, iv p2, iv p3, iv p4, iv p5, iv p6, iv 1, iv 0, iv g2, iv g3, iv ((9 : Int32) + (p6 &&& (7 : Int32))), rv b152, iv (stF p2), iv (P2 p2 g2), iv (P3 p2 g2 g3), iv (p5 &&& (31 : Int32))] [(.int (slotF (p5 &&& (31 : Int32)) (0 : Int32) (stF p2) (P2 p2 g2) (P3 p2 g2 g3))), (.int (entS (gi S0 (p5 &&& (31 : Int32)))))]))
              refine G1 (XS.icmpNo X170.here hx rfl (hb hby at_343) rfl (teq (own_slot0 p2 g2 g3 (p5 &&& (31 : Int32)) (own_m31 p5) hS0)).2) ?_
              show Gs p e below QQ T170 m 346 #[iv p1, iv p2, iv p3, iv p4, iv p5, iv p6, iv 1, iv 0, iv g2, iv g3, iv ((9 : Int32) + (p6 &&& (7 : Int32))), rv b152, iv (stF p2), iv (P2 p2 g2), iv (P3 p2 g2 g3), iv (p5 &&& (31 : Int32))] []
              refine G1 (XS.aload X170.here hx rfl (hb hby at_346) rfl rfl) ?_
              refine G1 (XS.iload X170.here hx rfl (hb hby at_348) rfl) ?_
              show Goes p e below QQ (T170.setTop (mkF m 350 #[iv p1, iv p2, iv p3, iv p4, iv p5, iv p6, iv 1, iv 0, iv g2, iv g3, iv ((9 : Int32) + (p6 &&& (7 : Int32))), rv b152, iv (stF p2), iv (P2 p2 g2), iv (P3 p2 g2 g3), iv (p5 &&& (31 : Int32))] [(.int (stF p2)), (.ref b152)]))
              obtain ⟨cq171, kq171, q171a, q171b, q171c⟩ := isOf hZ e170 A152_158
              obtain ⟨_, _, ⟨T171, L171, k171, n171⟩, -, X171, ⟨Lc171, hQ171, l171, y171, z171⟩, st171⟩ := X170.virtualBack hx (y := (⟨"com/example/bindery/bindery/PartIndex", "entryAt", "(I)I"⟩ : MethodName)) (z := (⟨"com/example/bindery/bindery/PartIndex", "entryAt", "(I)I"⟩ : MethodName)) hown (mvT hZ (wI hw 24 rfl)) (mvT hZ (wI hw 25 rfl)) (notFace_of_selects (args := #[]) (mvT hZ (wI hw 27 rfl))) (mvT hZ (wI hw 27 rfl)) (mvT hZ (wI hw 26 rfl)) (by decide) (backOf (W := 0) (rmE1 l Z a0 hw [] b152 (stF p2) bd kd S0 (gi S0 (stF p2)) T157.heap n0 (Nat.le_trans Z0 K163.1) slots_c Vd (own_st p2) (HS0.2 _)) hZ (wI hw 28 rfl) (wI hw 2 rfl) (by decide) (by decide)) q171a q171c (g := (mkF m 350 #[iv p1, iv p2, iv p3, iv p4, iv p5, iv p6, iv 1, iv 0, iv g2, iv g3, iv ((9 : Int32) + (p6 &&& (7 : Int32))), rv b152, iv (stF p2), iv (P2 p2 g2), iv (P3 p2 g2 g3), iv (p5 &&& (31 : Int32))] [(.int (stF p2)), (.ref b152)])) rfl (by rw [hml]; rfl) (Steps.refl _) (argsL := [(.int (stF p2))]) (rest := []) (lenOf pd_1 rfl) rfl (by show 2 * 0 + _ ≤ _; exact Nat.le_of_eq rfl) (hb hby at_350) (fun _ _ => ⟨rfl, e170, (by decide : 3 + 0 ≤ _), (by decide : 52 + 0 ≤ _)⟩)
              dsimp only [Pt.U, Pt.locs, Pt.cells, Pt.slots] at X171 l171 y171 z171 st171 hQ171
              have l171 := l171.symm; have y171 := y171.symm; have z171 := z171.symm; subst l171 y171 z171
              have X171 : Stand p l e room_1 s m #[(.int p1), (.int p2), (.int p3), (.int p4), (.int p5), (.int p6)] below meth c T171 _ 3 52 := X171
              obtain ⟨rfl, M171, e171⟩ := hQ171
              have N171 := Fr.app N170 M171
              refine Goes.on (fun t k => st171.trans k) ?_
              show Goes p e below QQ (T171.setTop (mkF m 353 #[iv p1, iv p2, iv p3, iv p4, iv p5, iv p6, iv 1, iv 0, iv g2, iv g3, iv ((9 : Int32) + (p6 &&& (7 : Int32))), rv b152, iv (stF p2), iv (P2 p2 g2), iv (P3 p2 g2 g3), iv (p5 &&& (31 : Int32))] [(.int (entS (gi S0 (stF p2))))]))
              refine G1 (XS.iload X171.here hx rfl (hb hby at_353) rfl) ?_
              refine G1 (XS.iload X171.here hx rfl (hb hby at_355) rfl) ?_
              refine G1 (XS.iload X171.here hx rfl (hb hby at_357) rfl) ?_
              show Gs p e below QQ T171 m 359 #[iv p1, iv p2, iv p3, iv p4, iv p5, iv p6, iv 1, iv 0, iv g2, iv g3, iv ((9 : Int32) + (p6 &&& (7 : Int32))), rv b152, iv (stF p2), iv (P2 p2 g2), iv (P3 p2 g2 g3), iv (p5 &&& (31 : Int32))] [(.int (stF p2)), (.int 0), (.int (stF p2)), (.int (entS (gi S0 (stF p2))))]
              refine G1 (XS.iload X171.here hx rfl (hb hby at_359) rfl) ?_
              refine G1 (XS.iload X171.here hx rfl (hb hby at_361) rfl) ?_
              show Goes p e below QQ (T171.setTop (mkF m 363 #[iv p1, iv p2, iv p3, iv p4, iv p5, iv p6, iv 1, iv 0, iv g2, iv g3, iv ((9 : Int32) + (p6 &&& (7 : Int32))), rv b152, iv (stF p2), iv (P2 p2 g2), iv (P3 p2 g2 g3), iv (p5 &&& (31 : Int32))] [(.int (P3 p2 g2 g3)), (.int (P2 p2 g2)), (.int (stF p2)), (.int 0), (.int (stF p2)), (.int (entS (gi S0 (stF p2))))]))
              obtain ⟨_, _, ⟨T172, L172, k172, n172⟩, -, X172, ⟨Lc172, hQ172, l172, y172, z172⟩, st172⟩ := Jvm.LawKit.callS X171 hx (y := (⟨"com/example/bindery/bindery/PartIndexEntryAtPinLaw", "slot", "(IIIII)I"⟩ : MethodName)) hown (mvT hZ (wI hw 78 rfl)) (mvT hZ (wI hw 79 rfl)) (mvT hZ (wI hw 35 rfl)) (mvT hZ (wI hw 80 rfl)) (by decide) (backOf (W := 1) (rmSl l Z a0 hw [] (stF p2) (0 : Int32) (stF p2) (P2 p2 g2) (P3 p2 g2 g3) T157.heap n0 (Nat.le_trans Z0 K163.1) ) hZ (wI hw 80 rfl) (wI hw 35 rfl) (by decide) (by decide)) (g := (mkF m 363 #[iv p1, iv p2, iv p3, iv p4, iv p5, iv p6, iv 1, iv 0, iv g2, iv g3, iv ((9 : Int32) + (p6 &&& (7 : Int32))), rv b152, iv (stF p2), iv (P2 p2 g2), iv (P3 p2 g2 g3), iv (p5 &&& (31 : Int32))] [(.int (P3 p2 g2 g3)), (.int (P2 p2 g2)), (.int (stF p2)), (.int 0), (.int (stF p2)), (.int (entS (gi S0 (stF p2))))])) rfl (by rw [hml]; rfl) (argsL := [(.int (stF p2)), (.int 0), (.int (stF p2)), (.int (P2 p2 g2)), (.int (P3 p2 g2 g3))]) (rest := [(.int (entS (gi S0 (stF p2))))]) (lenOf pd_4 rfl) rfl (by show 2 * 0 + _ ≤ _; exact Nat.le_of_eq rfl) (hb hby at_363) (fun _ _ => ⟨rfl, e171, (by decide : 3 + 0 ≤ _), (by decide : 52 + 0 ≤ _)⟩)
              dsimp only [Pt.U, Pt.locs, Pt.cells, Pt.slots] at X172 l172 y172 z172 st172 hQ172
              have l172 := l172.symm; have y172 := y172.symm; have z172 := z172.symm; subst l172 y172 z172
              have X172 : Stand p l e room_1 s m #[(.int p1), (.int p2), (.int p3), (.int p4), (.int p5), (.int p6)] below meth c T172 _ 3 52 := X172
              obtain ⟨rfl, M172, e172⟩ := hQ172
              have N172 := Fr.app N171 M172
              refine Goes.on (fun t k => st172 _ k) ?_
              show Goes p e below QQ (T172.setTop (mkF m 366 #[iv p1, iv p2, iv p3, iv p4, iv p5, iv p6, iv 1, iv 0, iv g2, iv g3, iv ((9 : Int32) + (p6 &&& (7 : Int32))), rv b152, iv (stF p2), iv (P2 p2 g2), iv (P3 p2 g2 g3), iv (p5 &&& (31 : Int32))] [(.int (slotF (stF p2) (0 : Int32) (stF p2) (P2 p2 g2) (P3 p2 g2 g3))), (.int (entS (gi S0 (stF p2))))]))
              refine G1 (XS.icmpNo X172.here hx rfl (hb hby at_366) rfl (teq (own_slot0 p2 g2 g3 (stF p2) (own_st p2) hS0)).2) ?_
              show Gs p e below QQ T172 m 369 #[iv p1, iv p2, iv p3, iv p4, iv p5, iv p6, iv 1, iv 0, iv g2, iv g3, iv ((9 : Int32) + (p6 &&& (7 : Int32))), rv b152, iv (stF p2), iv (P2 p2 g2), iv (P3 p2 g2 g3), iv (p5 &&& (31 : Int32))] []
              refine G1 (XS.aload X172.here hx rfl (hb hby at_369) rfl rfl) ?_
              refine G1 (XS.iload X172.here hx rfl (hb hby at_371) rfl) ?_
              show Goes p e below QQ (T172.setTop (mkF m 373 #[iv p1, iv p2, iv p3, iv p4, iv p5, iv p6, iv 1, iv 0, iv g2, iv g3, iv ((9 : Int32) + (p6 &&& (7 : Int32))), rv b152, iv (stF p2), iv (P2 p2 g2), iv (P3 p2 g2 g3), iv (p5 &&& (31 : Int32))] [(.int (P2 p2 g2)), (.ref b152)]))
              obtain ⟨cq173, kq173, q173a, q173b, q173c⟩ := isOf hZ e172 A152_158
              obtain ⟨_, _, ⟨T173, L173, k173, n173⟩, -, X173, ⟨Lc173, hQ173, l173, y173, z173⟩, st173⟩ := X172.virtualBack hx (y := (⟨"com/example/bindery/bindery/PartIndex", "entryAt", "(I)I"⟩ : MethodName)) (z := (⟨"com/example/bindery/bindery/PartIndex", "entryAt", "(I)I"⟩ : MethodName)) hown (mvT hZ (wI hw 24 rfl)) (mvT hZ (wI hw 25 rfl)) (notFace_of_selects (args := #[]) (mvT hZ (wI hw 27 rfl))) (mvT hZ (wI hw 27 rfl)) (mvT hZ (wI hw 26 rfl)) (by decide) (backOf (W := 0) (rmE1 l Z a0 hw [] b152 (P2 p2 g2) bd kd S0 (gi S0 (P2 p2 g2)) T157.heap n0 (Nat.le_trans Z0 K163.1) slots_c Vd (own_P2 p2 g2).1 (HS0.2 _)) hZ (wI hw 28 rfl) (wI hw 2 rfl) (by decide) (by decide)) q173a q173c (g := (mkF m 373 #[iv p1, iv p2, iv p3, iv p4, iv p5, iv p6, iv 1, iv 0, iv g2, iv g3, iv ((9 : Int32) + (p6 &&& (7 : Int32))), rv b152, iv (stF p2), iv (P2 p2 g2), iv (P3 p2 g2 g3), iv (p5 &&& (31 : Int32))] [(.int (P2 p2 g2)), (.ref b152)])) rfl (by rw [hml]; rfl) (Steps.refl _) (argsL := [(.int (P2 p2 g2))]) (rest := []) (lenOf pd_1 rfl) rfl (by show 2 * 0 + _ ≤ _; exact Nat.le_of_eq rfl) (hb hby at_373) (fun _ _ => ⟨rfl, e172, (by decide : 3 + 0 ≤ _), (by decide : 52 + 0 ≤ _)⟩)
              dsimp only [Pt.U, Pt.locs, Pt.cells, Pt.slots] at X173 l173 y173 z173 st173 hQ173
              have l173 := l173.symm; have y173 := y173.symm; have z173 := z173.symm; subst l173 y173 z173
              have X173 : Stand p l e room_1 s m #[(.int p1), (.int p2), (.int p3), (.int p4), (.int p5), (.int p6)] below meth c T173 _ 3 52 := X173
              obtain ⟨rfl, M173, e173⟩ := hQ173
              have N173 := Fr.app N172 M173
              refine Goes.on (fun t k => st173.trans k) ?_
              show Goes p e below QQ (T173.setTop (mkF m 376 #[iv p1, iv p2, iv p3, iv p4, iv p5, iv p6, iv 1, iv 0, iv g2, iv g3, iv ((9 : Int32) + (p6 &&& (7 : Int32))), rv b152, iv (stF p2), iv (P2 p2 g2), iv (P3 p2 g2 g3), iv (p5 &&& (31 : Int32))] [(.int (entS (gi S0 (P2 p2 g2))))]))
              refine G1 (XS.iload X173.here hx rfl (hb hby at_376) rfl) ?_
              refine G1 (XS.iload X173.here hx rfl (hb hby at_378) rfl) ?_
              refine G1 (XS.iload X173.here hx rfl (hb hby at_380) rfl) ?_
              show Gs p e below QQ T173 m 382 #[iv p1, iv p2, iv p3, iv p4, iv p5, iv p6, iv 1, iv 0, iv g2, iv g3, iv ((9 : Int32) + (p6 &&& (7 : Int32))), rv b152, iv (stF p2), iv (P2 p2 g2), iv (P3 p2 g2 g3), iv (p5 &&& (31 : Int32))] [(.int (stF p2)), (.int 0), (.int (P2 p2 g2)), (.int (entS (gi S0 (P2 p2 g2))))]
              refine G1 (XS.iload X173.here hx rfl (hb hby at_382) rfl) ?_
              refine G1 (XS.iload X173.here hx rfl (hb hby at_384) rfl) ?_
              show Goes p e below QQ (T173.setTop (mkF m 386 #[iv p1, iv p2, iv p3, iv p4, iv p5, iv p6, iv 1, iv 0, iv g2, iv g3, iv ((9 : Int32) + (p6 &&& (7 : Int32))), rv b152, iv (stF p2), iv (P2 p2 g2), iv (P3 p2 g2 g3), iv (p5 &&& (31 : Int32))] [(.int (P3 p2 g2 g3)), (.int (P2 p2 g2)), (.int (stF p2)), (.int 0), (.int (P2 p2 g2)), (.int (entS (gi S0 (P2 p2 g2))))]))
              obtain ⟨_, _, ⟨T174, L174, k174, n174⟩, -, X174, ⟨Lc174, hQ174, l174, y174, z174⟩, st174⟩ := Jvm.LawKit.callS X173 hx (y := (⟨"com/example/bindery/bindery/PartIndexEntryAtPinLaw", "slot", "(IIIII)I"⟩ : MethodName)) hown (mvT hZ (wI hw 78 rfl)) (mvT hZ (wI hw 79 rfl)) (mvT hZ (wI hw 35 rfl)) (mvT hZ (wI hw 80 rfl)) (by decide) (backOf (W := 1) (rmSl l Z a0 hw [] (P2 p2 g2) (0 : Int32) (stF p2) (P2 p2 g2) (P3 p2 g2 g3) T157.heap n0 (Nat.le_trans Z0 K163.1) ) hZ (wI hw 80 rfl) (wI hw 35 rfl) (by decide) (by decide)) (g := (mkF m 386 #[iv p1, iv p2, iv p3, iv p4, iv p5, iv p6, iv 1, iv 0, iv g2, iv g3, iv ((9 : Int32) + (p6 &&& (7 : Int32))), rv b152, iv (stF p2), iv (P2 p2 g2), iv (P3 p2 g2 g3), iv (p5 &&& (31 : Int32))] [(.int (P3 p2 g2 g3)), (.int (P2 p2 g2)), (.int (stF p2)), (.int 0), (.int (P2 p2 g2)), (.int (entS (gi S0 (P2 p2 g2))))])) rfl (by rw [hml]; rfl) (argsL := [(.int (P2 p2 g2)), (.int 0), (.int (stF p2)), (.int (P2 p2 g2)), (.int (P3 p2 g2 g3))]) (rest := [(.int (entS (gi S0 (P2 p2 g2))))]) (lenOf pd_4 rfl) rfl (by show 2 * 0 + _ ≤ _; exact Nat.le_of_eq rfl) (hb hby at_386) (fun _ _ => ⟨rfl, e173, (by decide : 3 + 0 ≤ _), (by decide : 52 + 0 ≤ _)⟩)
              dsimp only [Pt.U, Pt.locs, Pt.cells, Pt.slots] at X174 l174 y174 z174 st174 hQ174
              have l174 := l174.symm; have y174 := y174.symm; have z174 := z174.symm; subst l174 y174 z174
              have X174 : Stand p l e room_1 s m #[(.int p1), (.int p2), (.int p3), (.int p4), (.int p5), (.int p6)] below meth c T174 _ 3 52 := X174
              obtain ⟨rfl, M174, e174⟩ := hQ174
              have N174 := Fr.app N173 M174
              refine Goes.on (fun t k => st174 _ k) ?_
              show Goes p e below QQ (T174.setTop (mkF m 389 #[iv p1, iv p2, iv p3, iv p4, iv p5, iv p6, iv 1, iv 0, iv g2, iv g3, iv ((9 : Int32) + (p6 &&& (7 : Int32))), rv b152, iv (stF p2), iv (P2 p2 g2), iv (P3 p2 g2 g3), iv (p5 &&& (31 : Int32))] [(.int (slotF (P2 p2 g2) (0 : Int32) (stF p2) (P2 p2 g2) (P3 p2 g2 g3))), (.int (entS (gi S0 (P2 p2 g2))))]))
              refine G1 (XS.icmpNo X174.here hx rfl (hb hby at_389) rfl (teq (own_slot0 p2 g2 g3 (P2 p2 g2) (own_P2 p2 g2).1 hS0)).2) ?_
              show Gs p e below QQ T174 m 392 #[iv p1, iv p2, iv p3, iv p4, iv p5, iv p6, iv 1, iv 0, iv g2, iv g3, iv ((9 : Int32) + (p6 &&& (7 : Int32))), rv b152, iv (stF p2), iv (P2 p2 g2), iv (P3 p2 g2 g3), iv (p5 &&& (31 : Int32))] []
              refine G1 (XS.aload X174.here hx rfl (hb hby at_392) rfl rfl) ?_
              refine G1 (XS.iload X174.here hx rfl (hb hby at_394) rfl) ?_
              show Goes p e below QQ (T174.setTop (mkF m 396 #[iv p1, iv p2, iv p3, iv p4, iv p5, iv p6, iv 1, iv 0, iv g2, iv g3, iv ((9 : Int32) + (p6 &&& (7 : Int32))), rv b152, iv (stF p2), iv (P2 p2 g2), iv (P3 p2 g2 g3), iv (p5 &&& (31 : Int32))] [(.int (P3 p2 g2 g3)), (.ref b152)]))
              obtain ⟨cq175, kq175, q175a, q175b, q175c⟩ := isOf hZ e174 A152_158
              obtain ⟨_, _, ⟨T175, L175, k175, n175⟩, -, X175, ⟨Lc175, hQ175, l175, y175, z175⟩, st175⟩ := X174.virtualBack hx (y := (⟨"com/example/bindery/bindery/PartIndex", "entryAt", "(I)I"⟩ : MethodName)) (z := (⟨"com/example/bindery/bindery/PartIndex", "entryAt", "(I)I"⟩ : MethodName)) hown (mvT hZ (wI hw 24 rfl)) (mvT hZ (wI hw 25 rfl)) (notFace_of_selects (args := #[]) (mvT hZ (wI hw 27 rfl))) (mvT hZ (wI hw 27 rfl)) (mvT hZ (wI hw 26 rfl)) (by decide) (backOf (W := 0) (rmE1 l Z a0 hw [] b152 (P3 p2 g2 g3) bd kd S0 (gi S0 (P3 p2 g2 g3)) T157.heap n0 (Nat.le_trans Z0 K163.1) slots_c Vd (own_P3 p2 g2 g3).1 (HS0.2 _)) hZ (wI hw 28 rfl) (wI hw 2 rfl) (by decide) (by decide)) q175a q175c (g := (mkF m 396 #[iv p1, iv p2, iv p3, iv p4, iv p5, iv p6, iv 1, iv 0, iv g2, iv g3, iv ((9 : Int32) + (p6 &&& (7 : Int32))), rv b152, iv (stF p2), iv (P2 p2 g2), iv (P3 p2 g2 g3), iv (p5 &&& (31 : Int32))] [(.int (P3 p2 g2 g3)), (.ref b152)])) rfl (by rw [hml]; rfl) (Steps.refl _) (argsL := [(.int (P3 p2 g2 g3))]) (rest := []) (lenOf pd_1 rfl) rfl (by show 2 * 0 + _ ≤ _; exact Nat.le_of_eq rfl) (hb hby at_396) (fun _ _ => ⟨rfl, e174, (by decide : 3 + 0 ≤ _), (by decide : 52 + 0 ≤ _)⟩)
              dsimp only [Pt.U, Pt.locs, Pt.cells, Pt.slots] at X175 l175 y175 z175 st175 hQ175
              have l175 := l175.symm; have y175 := y175.symm; have z175 := z175.symm; subst l175 y175 z175
              have X175 : Stand p l e room_1 s m #[(.int p1), (.int p2), (.int p3), (.int p4), (.int p5), (.int p6)] below meth c T175 _ 3 52 := X175
              obtain ⟨rfl, M175, e175⟩ := hQ175
              have N175 := Fr.app N174 M175
              refine Goes.on (fun t k => st175.trans k) ?_
              show Goes p e below QQ (T175.setTop (mkF m 399 #[iv p1, iv p2, iv p3, iv p4, iv p5, iv p6, iv 1, iv 0, iv g2, iv g3, iv ((9 : Int32) + (p6 &&& (7 : Int32))), rv b152, iv (stF p2), iv (P2 p2 g2), iv (P3 p2 g2 g3), iv (p5 &&& (31 : Int32))] [(.int (entS (gi S0 (P3 p2 g2 g3))))]))
              refine G1 (XS.iload X175.here hx rfl (hb hby at_399) rfl) ?_
              refine G1 (XS.iload X175.here hx rfl (hb hby at_401) rfl) ?_
              refine G1 (XS.iload X175.here hx rfl (hb hby at_403) rfl) ?_
              show Gs p e below QQ T175 m 405 #[iv p1, iv p2, iv p3, iv p4, iv p5, iv p6, iv 1, iv 0, iv g2, iv g3, iv ((9 : Int32) + (p6 &&& (7 : Int32))), rv b152, iv (stF p2), iv (P2 p2 g2), iv (P3 p2 g2 g3), iv (p5 &&& (31 : Int32))] [(.int (stF p2)), (.int 0), (.int (P3 p2 g2 g3)), (.int (entS (gi S0 (P3 p2 g2 g3))))]
              refine G1 (XS.iload X175.here hx rfl (hb hby at_405) rfl) ?_
              refine G1 (XS.iload X175.here hx rfl (hb hby at_407) rfl) ?_
              show Goes p e below QQ (T175.setTop (mkF m 409 #[iv p1, iv p2, iv p3, iv p4, iv p5, iv p6, iv 1, iv 0, iv g2, iv g3, iv ((9 : Int32) + (p6 &&& (7 : Int32))), rv b152, iv (stF p2), iv (P2 p2 g2), iv (P3 p2 g2 g3), iv (p5 &&& (31 : Int32))] [(.int (P3 p2 g2 g3)), (.int (P2 p2 g2)), (.int (stF p2)), (.int 0), (.int (P3 p2 g2 g3)), (.int (entS (gi S0 (P3 p2 g2 g3))))]))
              obtain ⟨_, _, ⟨T176, L176, k176, n176⟩, -, X176, ⟨Lc176, hQ176, l176, y176, z176⟩, st176⟩ := Jvm.LawKit.callS X175 hx (y := (⟨"com/example/bindery/bindery/PartIndexEntryAtPinLaw", "slot", "(IIIII)I"⟩ : MethodName)) hown (mvT hZ (wI hw 78 rfl)) (mvT hZ (wI hw 79 rfl)) (mvT hZ (wI hw 35 rfl)) (mvT hZ (wI hw 80 rfl)) (by decide) (backOf (W := 1) (rmSl l Z a0 hw [] (P3 p2 g2 g3) (0 : Int32) (stF p2) (P2 p2 g2) (P3 p2 g2 g3) T157.heap n0 (Nat.le_trans Z0 K163.1) ) hZ (wI hw 80 rfl) (wI hw 35 rfl) (by decide) (by decide)) (g := (mkF m 409 #[iv p1, iv p2, iv p3, iv p4, iv p5, iv p6, iv 1, iv 0, iv g2, iv g3, iv ((9 : Int32) + (p6 &&& (7 : Int32))), rv b152, iv (stF p2), iv (P2 p2 g2), iv (P3 p2 g2 g3), iv (p5 &&& (31 : Int32))] [(.int (P3 p2 g2 g3)), (.int (P2 p2 g2)), (.int (stF p2)), (.int 0), (.int (P3 p2 g2 g3)), (.int (entS (gi S0 (P3 p2 g2 g3))))])) rfl (by rw [hml]; rfl) (argsL := [(.int (P3 p2 g2 g3)), (.int 0), (.int (stF p2)), (.int (P2 p2 g2)), (.int (P3 p2 g2 g3))]) (rest := [(.int (entS (gi S0 (P3 p2 g2 g3))))]) (lenOf pd_4 rfl) rfl (by show 2 * 0 + _ ≤ _; exact Nat.le_of_eq rfl) (hb hby at_409) (fun _ _ => ⟨rfl, e175, (by decide : 3 + 0 ≤ _), (by decide : 52 + 0 ≤ _)⟩)
              dsimp only [Pt.U, Pt.locs, Pt.cells, Pt.slots] at X176 l176 y176 z176 st176 hQ176
              have l176 := l176.symm; have y176 := y176.symm; have z176 := z176.symm; subst l176 y176 z176
              have X176 : Stand p l e room_1 s m #[(.int p1), (.int p2), (.int p3), (.int p4), (.int p5), (.int p6)] below meth c T176 _ 3 52 := X176
              obtain ⟨rfl, M176, e176⟩ := hQ176
              have N176 := Fr.app N175 M176
              refine Goes.on (fun t k => st176 _ k) ?_
              show Goes p e below QQ (T176.setTop (mkF m 412 #[iv p1, iv p2, iv p3, iv p4, iv p5, iv p6, iv 1, iv 0, iv g2, iv g3, iv ((9 : Int32) + (p6 &&& (7 : Int32))), rv b152, iv (stF p2), iv (P2 p2 g2), iv (P3 p2 g2 g3), iv (p5 &&& (31 : Int32))] [(.int (slotF (P3 p2 g2 g3) (0 : Int32) (stF p2) (P2 p2 g2) (P3 p2 g2 g3))), (.int (entS (gi S0 (P3 p2 g2 g3))))]))
              refine G1 (XS.icmpNo X176.here hx rfl (hb hby at_412) rfl (teq (own_slot0 p2 g2 g3 (P3 p2 g2 g3) (own_P3 p2 g2 g3).1 hS0)).2) ?_
              show Gs p e below QQ T176 m 415 #[iv p1, iv p2, iv p3, iv p4, iv p5, iv p6, iv 1, iv 0, iv g2, iv g3, iv ((9 : Int32) + (p6 &&& (7 : Int32))), rv b152, iv (stF p2), iv (P2 p2 g2), iv (P3 p2 g2 g3), iv (p5 &&& (31 : Int32))] []
              refine G1 (XS.iconst X176.here hx rfl (hb hby at_415)) ?_
              refine G1 (XS.goto X176.here hx rfl (pc0 := 416) (pc' := 420) rfl (hb hby at_416) (by decide) (by decide)) ?_
              show Goes p e below QQ (T176.setTop (mkF m 420 #[iv p1, iv p2, iv p3, iv p4, iv p5, iv p6, iv 1, iv 0, iv g2, iv g3, iv ((9 : Int32) + (p6 &&& (7 : Int32))), rv b152, iv (stF p2), iv (P2 p2 g2), iv (P3 p2 g2 g3), iv (p5 &&& (31 : Int32))] [(.int 1)]))
              exact Goes.rN X176 hx (t := .boolean) hret (by simp) hlk (hb hby at_420) hQQ ⟨rfl, N176⟩ (by decide) (by decide)
            show Goes p e below QQ (T167.setTop (mkF m 274 #[iv p1, iv p2, iv p3, iv p4, iv p5, iv p6, iv 1, iv 0, iv g2, iv g3, iv ((9 : Int32) + (p6 &&& (7 : Int32))), rv b152, iv (stF p2), iv (if (stF g2) = (stF p2) then (((stF g2) + (1 : Int32)) &&& (31 : Int32)) else (stF g2)), iv (stF g3), .unset] [(.int (stF p2)), (.int (stF g3))]))
            by_cases hb177 : (stF g3) = (stF p2)
            · refine G1 (XS.icmpYes X167.here hx rfl (pc0 := 274) (pc' := 284) rfl (hb hby at_274) rfl (teq hb177).1 (by decide) (by decide)) ?_
              show Gs p e below QQ T167 m 284 #[iv p1, iv p2, iv p3, iv p4, iv p5, iv p6, iv 1, iv 0, iv g2, iv g3, iv ((9 : Int32) + (p6 &&& (7 : Int32))), rv b152, iv (stF p2), iv (if (stF g2) = (stF p2) then (((stF g2) + (1 : Int32)) &&& (31 : Int32)) else (stF g2)), iv (stF g3), .unset] []
              refine G1 (XS.iload X167.here hx rfl (hb hby at_284) rfl) ?_
              refine G1 (XS.iconst X167.here hx rfl (hb hby at_286)) ?_
              show Gs p e below QQ T167 m 287 #[iv p1, iv p2, iv p3, iv p4, iv p5, iv p6, iv 1, iv 0, iv g2, iv g3, iv ((9 : Int32) + (p6 &&& (7 : Int32))), rv b152, iv (stF p2), iv (if (stF g2) = (stF p2) then (((stF g2) + (1 : Int32)) &&& (31 : Int32)) else (stF g2)), iv (stF g3), .unset] [(.int 1), (.int (stF g3))]
              refine G1 (XS.iadd X167.here hx rfl (hb hby at_287) rfl) ?_
              show Gs p e below QQ T167 m 288 #[iv p1, iv p2, iv p3, iv p4, iv p5, iv p6, iv 1, iv 0, iv g2, iv g3, iv ((9 : Int32) + (p6 &&& (7 : Int32))), rv b152, iv (stF p2), iv (if (stF g2) = (stF p2) then (((stF g2) + (1 : Int32)) &&& (31 : Int32)) else (stF g2)), iv (stF g3), .unset] [(.int ((stF g3) + (1 : Int32)))]
              refine G1 (XS.bipush X167.here hx rfl (hb hby at_288)) ?_
              show Gs p e below QQ T167 m 290 #[iv p1, iv p2, iv p3, iv p4, iv p5, iv p6, iv 1, iv 0, iv g2, iv g3, iv ((9 : Int32) + (p6 &&& (7 : Int32))), rv b152, iv (stF p2), iv (if (stF g2) = (stF p2) then (((stF g2) + (1 : Int32)) &&& (31 : Int32)) else (stF g2)), iv (stF g3), .unset] [(.int 31), (.int ((stF g3) + (1 : Int32)))]
              refine G1 (XS.iand X167.here hx rfl (hb hby at_290) rfl) ?_
              show Gs p e below QQ T167 m 291 #[iv p1, iv p2, iv p3, iv p4, iv p5, iv p6, iv 1, iv 0, iv g2, iv g3, iv ((9 : Int32) + (p6 &&& (7 : Int32))), rv b152, iv (stF p2), iv (if (stF g2) = (stF p2) then (((stF g2) + (1 : Int32)) &&& (31 : Int32)) else (stF g2)), iv (stF g3), .unset] [(.int (((stF g3) + (1 : Int32)) &&& (31 : Int32)))]
              refine G1 (XS.istore X167.here hx rfl (hb hby at_291) rfl (l' := #[iv p1, iv p2, iv p3, iv p4, iv p5, iv p6, iv 1, iv 0, iv g2, iv g3, iv ((9 : Int32) + (p6 &&& (7 : Int32))), rv b152, iv (stF p2), iv (if (stF g2) = (stF p2) then (((stF g2) + (1 : Int32)) &&& (31 : Int32)) else (stF g2)), iv (((stF g3) + (1 : Int32)) &&& (31 : Int32)), .unset]) rfl) ?_
              refine G1 (XS.iload X167.here hx rfl (hb hby at_293) rfl) ?_
              refine G1 (XS.iload X167.here hx rfl (hb hby at_295) rfl) ?_
              show Goes p e below QQ (T167.setTop (mkF m 297 #[iv p1, iv p2, iv p3, iv p4, iv p5, iv p6, iv 1, iv 0, iv g2, iv g3, iv ((9 : Int32) + (p6 &&& (7 : Int32))), rv b152, iv (stF p2), iv (if (stF g2) = (stF p2) then (((stF g2) + (1 : Int32)) &&& (31 : Int32)) else (stF g2)), iv (((stF g3) + (1 : Int32)) &&& (31 : Int32)), .unset] [(.int (stF p2)), (.int (((stF g3) + (1 : Int32)) &&& (31 : Int32)))]))
              by_cases hb178 : (((stF g3) + (1 : Int32)) &&& (31 : Int32)) = (stF p2)
              · refine G1 (XS.icmpYes X167.here hx rfl (pc0 := 297) (pc' := 307) rfl (hb hby at_297) rfl (teq hb178).1 (by decide) (by decide)) ?_
                show Gs p e below QQ T167 m 307 #[iv p1, iv p2, iv p3, iv p4, iv p5, iv p6, iv 1, iv 0, iv g2, iv g3, iv ((9 : Int32) + (p6 &&& (7 : Int32))), rv b152, iv (stF p2), iv (if (stF g2) = (stF p2) then (((stF g2) + (1 : Int32)) &&& (31 : Int32)) else (stF g2)), iv (((stF g3) + (1 : Int32)) &&& (31 : Int32)), .unset] []
                refine G1 (XS.iload X167.here hx rfl (hb hby at_307) rfl) ?_
                refine G1 (XS.iconst X167.here hx rfl (hb hby at_309)) ?_
                show Gs p e below QQ T167 m 310 #[iv p1, iv p2, iv p3, iv p4, iv p5, iv p6, iv 1, iv 0, iv g2, iv g3, iv ((9 : Int32) + (p6 &&& (7 : Int32))), rv b152, iv (stF p2), iv (if (stF g2) = (stF p2) then (((stF g2) + (1 : Int32)) &&& (31 : Int32)) else (stF g2)), iv (((stF g3) + (1 : Int32)) &&& (31 : Int32)), .unset] [(.int 1), (.int (((stF g3) + (1 : Int32)) &&& (31 : Int32)))]
                refine G1 (XS.iadd X167.here hx rfl (hb hby at_310) rfl) ?_
                show Gs p e below QQ T167 m 311 #[iv p1, iv p2, iv p3, iv p4, iv p5, iv p6, iv 1, iv 0, iv g2, iv g3, iv ((9 : Int32) + (p6 &&& (7 : Int32))), rv b152, iv (stF p2), iv (if (stF g2) = (stF p2) then (((stF g2) + (1 : Int32)) &&& (31 : Int32)) else (stF g2)), iv (((stF g3) + (1 : Int32)) &&& (31 : Int32)), .unset] [(.int ((((stF g3) + (1 : Int32)) &&& (31 : Int32)) + (1 : Int32)))]
                refine G1 (XS.bipush X167.here hx rfl (hb hby at_311)) ?_
                show Gs p e below QQ T167 m 313 #[iv p1, iv p2, iv p3, iv p4, iv p5, iv p6, iv 1, iv 0, iv g2, iv g3, iv ((9 : Int32) + (p6 &&& (7 : Int32))), rv b152, iv (stF p2), iv (if (stF g2) = (stF p2) then (((stF g2) + (1 : Int32)) &&& (31 : Int32)) else (stF g2)), iv (((stF g3) + (1 : Int32)) &&& (31 : Int32)), .unset] [(.int 31), (.int ((((stF g3) + (1 : Int32)) &&& (31 : Int32)) + (1 : Int32)))]
                refine G1 (XS.iand X167.here hx rfl (hb hby at_313) rfl) ?_
                show Gs p e below QQ T167 m 314 #[iv p1, iv p2, iv p3, iv p4, iv p5, iv p6, iv 1, iv 0, iv g2, iv g3, iv ((9 : Int32) + (p6 &&& (7 : Int32))), rv b152, iv (stF p2), iv (if (stF g2) = (stF p2) then (((stF g2) + (1 : Int32)) &&& (31 : Int32)) else (stF g2)), iv (((stF g3) + (1 : Int32)) &&& (31 : Int32)), .unset] [(.int (((((stF g3) + (1 : Int32)) &&& (31 : Int32)) + (1 : Int32)) &&& (31 : Int32)))]
                refine G1 (XS.istore X167.here hx rfl (hb hby at_314) rfl (l' := #[iv p1, iv p2, iv p3, iv p4, iv p5, iv p6, iv 1, iv 0, iv g2, iv g3, iv ((9 : Int32) + (p6 &&& (7 : Int32))), rv b152, iv (stF p2), iv (if (stF g2) = (stF p2) then (((stF g2) + (1 : Int32)) &&& (31 : Int32)) else (stF g2)), iv (((((stF g3) + (1 : Int32)) &&& (31 : Int32)) + (1 : Int32)) &&& (31 : Int32)), .unset]) rfl) ?_
                show Goes p e below QQ (T167.setTop (mkF m 316 #[iv p1, iv p2, iv p3, iv p4, iv p5, iv p6, iv 1, iv 0, iv g2, iv g3, iv ((9 : Int32) + (p6 &&& (7 : Int32))), rv b152, iv (stF p2), iv (if (stF g2) = (stF p2) then (((stF g2) + (1 : Int32)) &&& (31 : Int32)) else (stF g2)), iv (((((stF g3) + (1 : Int32)) &&& (31 : Int32)) + (1 : Int32)) &&& (31 : Int32)), .unset] []))
                rw [(((if_pos hb177).trans ((if_pos hb178).trans rfl)) : (if (stF g3) = (stF p2) then (if (((stF g3) + (1 : Int32)) &&& (31 : Int32)) = (stF p2) then (((((stF g3) + (1 : Int32)) &&& (31 : Int32)) + (1 : Int32)) &&& (31 : Int32)) else (if (((stF g3) + (1 : Int32)) &&& (31 : Int32)) = (if (stF g2) = (stF p2) then (((stF g2) + (1 : Int32)) &&& (31 : Int32)) else (stF g2)) then (((((stF g3) + (1 : Int32)) &&& (31 : Int32)) + (1 : Int32)) &&& (31 : Int32)) else (((stF g3) + (1 : Int32)) &&& (31 : Int32)))) else (if (stF g3) = (if (stF g2) = (stF p2) then (((stF g2) + (1 : Int32)) &&& (31 : Int32)) else (stF g2)) then (if (((stF g3) + (1 : Int32)) &&& (31 : Int32)) = (stF p2) then (((((stF g3) + (1 : Int32)) &&& (31 : Int32)) + (1 : Int32)) &&& (31 : Int32)) else (if (((stF g3) + (1 : Int32)) &&& (31 : Int32)) = (if (stF g2) = (stF p2) then (((stF g2) + (1 : Int32)) &&& (31 : Int32)) else (stF g2)) then (((((stF g3) + (1 : Int32)) &&& (31 : Int32)) + (1 : Int32)) &&& (31 : Int32)) else (((stF g3) + (1 : Int32)) &&& (31 : Int32)))) else (stF g3))) = (((((stF g3) + (1 : Int32)) &&& (31 : Int32)) + (1 : Int32)) &&& (31 : Int32)))] at J168
                exact J168 _ _ X167 e167 N167
              · refine G1 (XS.icmpNo X167.here hx rfl (hb hby at_297) rfl (feq hb178).1) ?_
                show Gs p e below QQ T167 m 300 #[iv p1, iv p2, iv p3, iv p4, iv p5, iv p6, iv 1, iv 0, iv g2, iv g3, iv ((9 : Int32) + (p6 &&& (7 : Int32))), rv b152, iv (stF p2), iv (if (stF g2) = (stF p2) then (((stF g2) + (1 : Int32)) &&& (31 : Int32)) else (stF g2)), iv (((stF g3) + (1 : Int32)) &&& (31 : Int32)), .unset] []
                refine G1 (XS.iload X167.here hx rfl (hb hby at_300) rfl) ?_
                refine G1 (XS.iload X167.here hx rfl (hb hby at_302) rfl) ?_
                show Goes p e below QQ (T167.setTop (mkF m 304 #[iv p1, iv p2, iv p3, iv p4, iv p5, iv p6, iv 1, iv 0, iv g2, iv g3, iv ((9 : Int32) + (p6 &&& (7 : Int32))), rv b152, iv (stF p2), iv (if (stF g2) = (stF p2) then (((stF g2) + (1 : Int32)) &&& (31 : Int32)) else (stF g2)), iv (((stF g3) + (1 : Int32)) &&& (31 : Int32)), .unset] [(.int (if (stF g2) = (stF p2) then (((stF g2) + (1 : Int32)) &&& (31 : Int32)) else (stF g2))), (.int (((stF g3) + (1 : Int32)) &&& (31 : Int32)))]))
                by_cases hb179 : (((stF g3) + (1 : Int32)) &&& (31 : Int32)) = (if (stF g2) = (stF p2) then (((stF g2) + (1 : Int32)) &&& (31 : Int32)) else (stF g2))
                · refine G1 (XS.icmpNo X167.here hx rfl (hb hby at_304) rfl (teq hb179).2) ?_
                  show Gs p e below QQ T167 m 307 #[iv p1, iv p2, iv p3, iv p4, iv p5, iv p6, iv 1, iv 0, iv g2, iv g3, iv ((9 : Int32) + (p6 &&& (7 : Int32))), rv b152, iv (stF p2), iv (if (stF g2) = (stF p2) then (((stF g2) + (1 : Int32)) &&& (31 : Int32)) else (stF g2)), iv (((stF g3) + (1 : Int32)) &&& (31 : Int32)), .unset] []
                  refine G1 (XS.iload X167.here hx rfl (hb hby at_307) rfl) ?_
                  refine G1 (XS.iconst X167.here hx rfl (hb hby at_309)) ?_
                  show Gs p e below QQ T167 m 310 #[iv p1, iv p2, iv p3, iv p4, iv p5, iv p6, iv 1, iv 0, iv g2, iv g3, iv ((9 : Int32) + (p6 &&& (7 : Int32))), rv b152, iv (stF p2), iv (if (stF g2) = (stF p2) then (((stF g2) + (1 : Int32)) &&& (31 : Int32)) else (stF g2)), iv (((stF g3) + (1 : Int32)) &&& (31 : Int32)), .unset] [(.int 1), (.int (((stF g3) + (1 : Int32)) &&& (31 : Int32)))]
                  refine G1 (XS.iadd X167.here hx rfl (hb hby at_310) rfl) ?_
                  show Gs p e below QQ T167 m 311 #[iv p1, iv p2, iv p3, iv p4, iv p5, iv p6, iv 1, iv 0, iv g2, iv g3, iv ((9 : Int32) + (p6 &&& (7 : Int32))), rv b152, iv (stF p2), iv (if (stF g2) = (stF p2) then (((stF g2) + (1 : Int32)) &&& (31 : Int32)) else (stF g2)), iv (((stF g3) + (1 : Int32)) &&& (31 : Int32)), .unset] [(.int ((((stF g3) + (1 : Int32)) &&& (31 : Int32)) + (1 : Int32)))]
                  refine G1 (XS.bipush X167.here hx rfl (hb hby at_311)) ?_
                  show Gs p e below QQ T167 m 313 #[iv p1, iv p2, iv p3, iv p4, iv p5, iv p6, iv 1, iv 0, iv g2, iv g3, iv ((9 : Int32) + (p6 &&& (7 : Int32))), rv b152, iv (stF p2), iv (if (stF g2) = (stF p2) then (((stF g2) + (1 : Int32)) &&& (31 : Int32)) else (stF g2)), iv (((stF g3) + (1 : Int32)) &&& (31 : Int32)), .unset] [(.int 31), (.int ((((stF g3) + (1 : Int32)) &&& (31 : Int32)) + (1 : Int32)))]
                  refine G1 (XS.iand X167.here hx rfl (hb hby at_313) rfl) ?_
                  show Gs p e below QQ T167 m 314 #[iv p1, iv p2, iv p3, iv p4, iv p5, iv p6, iv 1, iv 0, iv g2, iv g3, iv ((9 : Int32) + (p6 &&& (7 : Int32))), rv b152, iv (stF p2), iv (if (stF g2) = (stF p2) then (((stF g2) + (1 : Int32)) &&& (31 : Int32)) else (stF g2)), iv (((stF g3) + (1 : Int32)) &&& (31 : Int32)), .unset] [(.int (((((stF g3) + (1 : Int32)) &&& (31 : Int32)) + (1 : Int32)) &&& (31 : Int32)))]
                  refine G1 (XS.istore X167.here hx rfl (hb hby at_314) rfl (l' := #[iv p1, iv p2, iv p3, iv p4, iv p5, iv p6, iv 1, iv 0, iv g2, iv g3, iv ((9 : Int32) + (p6 &&& (7 : Int32))), rv b152, iv (stF p2), iv (if (stF g2) = (stF p2) then (((stF g2) + (1 : Int32)) &&& (31 : Int32)) else (stF g2)), iv (((((stF g3) + (1 : Int32)) &&& (31 : Int32)) + (1 : Int32)) &&& (31 : Int32)), .unset]) rfl) ?_
                  show Goes p e below QQ (T167.setTop (mkF m 316 #[iv p1, iv p2, iv p3, iv p4, iv p5, iv p6, iv 1, iv 0, iv g2, iv g3, iv ((9 : Int32) + (p6 &&& (7 : Int32))), rv b152, iv (stF p2), iv (if (stF g2) = (stF p2) then (((stF g2) + (1 : Int32)) &&& (31 : Int32)) else (stF g2)), iv (((((stF g3) + (1 : Int32)) &&& (31 : Int32)) + (1 : Int32)) &&& (31 : Int32)), .unset] []))
                  rw [(((if_pos hb177).trans ((if_neg hb178).trans ((if_pos hb179).trans rfl))) : (if (stF g3) = (stF p2) then (if (((stF g3) + (1 : Int32)) &&& (31 : Int32)) = (stF p2) then (((((stF g3) + (1 : Int32)) &&& (31 : Int32)) + (1 : Int32)) &&& (31 : Int32)) else (if (((stF g3) + (1 : Int32)) &&& (31 : Int32)) = (if (stF g2) = (stF p2) then (((stF g2) + (1 : Int32)) &&& (31 : Int32)) else (stF g2)) then (((((stF g3) + (1 : Int32)) &&& (31 : Int32)) + (1 : Int32)) &&& (31 : Int32)) else (((stF g3) + (1 : Int32)) &&& (31 : Int32)))) else (if (stF g3) = (if (stF g2) = (stF p2) then (((stF g2) + (1 : Int32)) &&& (31 : Int32)) else (stF g2)) then (if (((stF g3) + (1 : Int32)) &&& (31 : Int32)) = (stF p2) then (((((stF g3) + (1 : Int32)) &&& (31 : Int32)) + (1 : Int32)) &&& (31 : Int32)) else (if (((stF g3) + (1 : Int32)) &&& (31 : Int32)) = (if (stF g2) = (stF p2) then (((stF g2) + (1 : Int32)) &&& (31 : Int32)) else (stF g2)) then (((((stF g3) + (1 : Int32)) &&& (31 : Int32)) + (1 : Int32)) &&& (31 : Int32)) else (((stF g3) + (1 : Int32)) &&& (31 : Int32)))) else (stF g3))) = (((((stF g3) + (1 : Int32)) &&& (31 : Int32)) + (1 : Int32)) &&& (31 : Int32)))] at J168
                  exact J168 _ _ X167 e167 N167
                · refine G1 (XS.icmpYes X167.here hx rfl (pc0 := 304) (pc' := 316) rfl (hb hby at_304) rfl (feq hb179).2 (by decide) (by decide)) ?_
                  show Goes p e below QQ (T167.setTop (mkF m 316 #[iv p1, iv p2, iv p3, iv p4, iv p5, iv p6, iv 1, iv 0, iv g2, iv g3, iv ((9 : Int32) + (p6 &&& (7 : Int32))), rv b152, iv (stF p2), iv (if (stF g2) = (stF p2) then (((stF g2) + (1 : Int32)) &&& (31 : Int32)) else (stF g2)), iv (((stF g3) + (1 : Int32)) &&& (31 : Int32)), .unset] []))
                  rw [(((if_pos hb177).trans ((if_neg hb178).trans ((if_neg hb179).trans rfl))) : (if (stF g3) = (stF p2) then (if (((stF g3) + (1 : Int32)) &&& (31 : Int32)) = (stF p2) then (((((stF g3) + (1 : Int32)) &&& (31 : Int32)) + (1 : Int32)) &&& (31 : Int32)) else (if (((stF g3) + (1 : Int32)) &&& (31 : Int32)) = (if (stF g2) = (stF p2) then (((stF g2) + (1 : Int32)) &&& (31 : Int32)) else (stF g2)) then (((((stF g3) + (1 : Int32)) &&& (31 : Int32)) + (1 : Int32)) &&& (31 : Int32)) else (((stF g3) + (1 : Int32)) &&& (31 : Int32)))) else (if (stF g3) = (if (stF g2) = (stF p2) then (((stF g2) + (1 : Int32)) &&& (31 : Int32)) else (stF g2)) then (if (((stF g3) + (1 : Int32)) &&& (31 : Int32)) = (stF p2) then (((((stF g3) + (1 : Int32)) &&& (31 : Int32)) + (1 : Int32)) &&& (31 : Int32)) else (if (((stF g3) + (1 : Int32)) &&& (31 : Int32)) = (if (stF g2) = (stF p2) then (((stF g2) + (1 : Int32)) &&& (31 : Int32)) else (stF g2)) then (((((stF g3) + (1 : Int32)) &&& (31 : Int32)) + (1 : Int32)) &&& (31 : Int32)) else (((stF g3) + (1 : Int32)) &&& (31 : Int32)))) else (stF g3))) = (((stF g3) + (1 : Int32)) &&& (31 : Int32)))] at J168
                  exact J168 _ _ X167 e167 N167
            · refine G1 (XS.icmpNo X167.here hx rfl (hb hby at_274) rfl (feq hb177).1) ?_
              show Gs p e below QQ T167 m 277 #[iv p1, iv p2, iv p3, iv p4, iv p5, iv p6, iv 1, iv 0, iv g2, iv g3, iv ((9 : Int32) + (p6 &&& (7 : Int32))), rv b152, iv (stF p2), iv (if (stF g2) = (stF p2) then (((stF g2) + (1 : Int32)) &&& (31 : Int32)) else (stF g2)), iv (stF g3), .unset] []
              refine G1 (XS.iload X167.here hx rfl (hb hby at_277) rfl) ?_
              refine G1 (XS.iload X167.here hx rfl (hb hby at_279) rfl) ?_
              show Goes p e below QQ (T167.setTop (mkF m 281 #[iv p1, iv p2, iv p3, iv p4, iv p5, iv p6, iv 1, iv 0, iv g2, iv g3, iv ((9 : Int32) + (p6 &&& (7 : Int32))), rv b152, iv (stF p2), iv (if (stF g2) = (stF p2) then (((stF g2) + (1 : Int32)) &&& (31 : Int32)) else (stF g2)), iv (stF g3), .unset] [(.int (if (stF g2) = (stF p2) then (((stF g2) + (1 : Int32)) &&& (31 : Int32)) else (stF g2))), (.int (stF g3))]))
              by_cases hb180 : (stF g3) = (if (stF g2) = (stF p2) then (((stF g2) + (1 : Int32)) &&& (31 : Int32)) else (stF g2))
              · refine G1 (XS.icmpNo X167.here hx rfl (hb hby at_281) rfl (teq hb180).2) ?_
                show Gs p e below QQ T167 m 284 #[iv p1, iv p2, iv p3, iv p4, iv p5, iv p6, iv 1, iv 0, iv g2, iv g3, iv ((9 : Int32) + (p6 &&& (7 : Int32))), rv b152, iv (stF p2), iv (if (stF g2) = (stF p2) then (((stF g2) + (1 : Int32)) &&& (31 : Int32)) else (stF g2)), iv (stF g3), .unset] []
                refine G1 (XS.iload X167.here hx rfl (hb hby at_284) rfl) ?_
                refine G1 (XS.iconst X167.here hx rfl (hb hby at_286)) ?_
                show Gs p e below QQ T167 m 287 #[iv p1, iv p2, iv p3, iv p4, iv p5, iv p6, iv 1, iv 0, iv g2, iv g3, iv ((9 : Int32) + (p6 &&& (7 : Int32))), rv b152, iv (stF p2), iv (if (stF g2) = (stF p2) then (((stF g2) + (1 : Int32)) &&& (31 : Int32)) else (stF g2)), iv (stF g3), .unset] [(.int 1), (.int (stF g3))]
                refine G1 (XS.iadd X167.here hx rfl (hb hby at_287) rfl) ?_
                show Gs p e below QQ T167 m 288 #[iv p1, iv p2, iv p3, iv p4, iv p5, iv p6, iv 1, iv 0, iv g2, iv g3, iv ((9 : Int32) + (p6 &&& (7 : Int32))), rv b152, iv (stF p2), iv (if (stF g2) = (stF p2) then (((stF g2) + (1 : Int32)) &&& (31 : Int32)) else (stF g2)), iv (stF g3), .unset] [(.int ((stF g3) + (1 : Int32)))]
                refine G1 (XS.bipush X167.here hx rfl (hb hby at_288)) ?_
                show Gs p e below QQ T167 m 290 #[iv p1, iv p2, iv p3, iv p4, iv p5, iv p6, iv 1, iv 0, iv g2, iv g3, iv ((9 : Int32) + (p6 &&& (7 : Int32))), rv b152, iv (stF p2), iv (if (stF g2) = (stF p2) then (((stF g2) + (1 : Int32)) &&& (31 : Int32)) else (stF g2)), iv (stF g3), .unset] [(.int 31), (.int ((stF g3) + (1 : Int32)))]
                refine G1 (XS.iand X167.here hx rfl (hb hby at_290) rfl) ?_
                show Gs p e below QQ T167 m 291 #[iv p1, iv p2, iv p3, iv p4, iv p5, iv p6, iv 1, iv 0, iv g2, iv g3, iv ((9 : Int32) + (p6 &&& (7 : Int32))), rv b152, iv (stF p2), iv (if (stF g2) = (stF p2) then (((stF g2) + (1 : Int32)) &&& (31 : Int32)) else (stF g2)), iv (stF g3), .unset] [(.int (((stF g3) + (1 : Int32)) &&& (31 : Int32)))]
                refine G1 (XS.istore X167.here hx rfl (hb hby at_291) rfl (l' := #[iv p1, iv p2, iv p3, iv p4, iv p5, iv p6, iv 1, iv 0, iv g2, iv g3, iv ((9 : Int32) + (p6 &&& (7 : Int32))), rv b152, iv (stF p2), iv (if (stF g2) = (stF p2) then (((stF g2) + (1 : Int32)) &&& (31 : Int32)) else (stF g2)), iv (((stF g3) + (1 : Int32)) &&& (31 : Int32)), .unset]) rfl) ?_
                refine G1 (XS.iload X167.here hx rfl (hb hby at_293) rfl) ?_
                refine G1 (XS.iload X167.here hx rfl (hb hby at_295) rfl) ?_
                show Goes p e below QQ (T167.setTop (mkF m 297 #[iv p1, iv p2, iv p3, iv p4, iv p5, iv p6, iv 1, iv 0, iv g2, iv g3, iv ((9 : Int32) + (p6 &&& (7 : Int32))), rv b152, iv (stF p2), iv (if (stF g2) = (stF p2) then (((stF g2) + (1 : Int32)) &&& (31 : Int32)) else (stF g2)), iv (((stF g3) + (1 : Int32)) &&& (31 : Int32)), .unset] [(.int (stF p2)), (.int (((stF g3) + (1 : Int32)) &&& (31 : Int32)))]))
                by_cases hb181 : (((stF g3) + (1 : Int32)) &&& (31 : Int32)) = (stF p2)
                · refine G1 (XS.icmpYes X167.here hx rfl (pc0 := 297) (pc' := 307) rfl (hb hby at_297) rfl (teq hb181).1 (by decide) (by decide)) ?_
                  show Gs p e below QQ T167 m 307 #[iv p1, iv p2, iv p3, iv p4, iv p5, iv p6, iv 1, iv 0, iv g2, iv g3, iv ((9 : Int32) + (p6 &&& (7 : Int32))), rv b152, iv (stF p2), iv (if (stF g2) = (stF p2) then (((stF g2) + (1 : Int32)) &&& (31 : Int32)) else (stF g2)), iv (((stF g3) + (1 : Int32)) &&& (31 : Int32)), .unset] []
                  refine G1 (XS.iload X167.here hx rfl (hb hby at_307) rfl) ?_
                  refine G1 (XS.iconst X167.here hx rfl (hb hby at_309)) ?_
                  show Gs p e below QQ T167 m 310 #[iv p1, iv p2, iv p3, iv p4, iv p5, iv p6, iv 1, iv 0, iv g2, iv g3, iv ((9 : Int32) + (p6 &&& (7 : Int32))), rv b152, iv (stF p2), iv (if (stF g2) = (stF p2) then (((stF g2) + (1 : Int32)) &&& (31 : Int32)) else (stF g2)), iv (((stF g3) + (1 : Int32)) &&& (31 : Int32)), .unset] [(.int 1), (.int (((stF g3) + (1 : Int32)) &&& (31 : Int32)))]
                  refine G1 (XS.iadd X167.here hx rfl (hb hby at_310) rfl) ?_
                  show Gs p e below QQ T167 m 311 #[iv p1, iv p2, iv p3, iv p4, iv p5, iv p6, iv 1, iv 0, iv g2, iv g3, iv ((9 : Int32) + (p6 &&& (7 : Int32))), rv b152, iv (stF p2), iv (if (stF g2) = (stF p2) then (((stF g2) + (1 : Int32)) &&& (31 : Int32)) else (stF g2)), iv (((stF g3) + (1 : Int32)) &&& (31 : Int32)), .unset] [(.int ((((stF g3) + (1 : Int32)) &&& (31 : Int32)) + (1 : Int32)))]
                  refine G1 (XS.bipush X167.here hx rfl (hb hby at_311)) ?_
                  show Gs p e below QQ T167 m 313 #[iv p1, iv p2, iv p3, iv p4, iv p5, iv p6, iv 1, iv 0, iv g2, iv g3, iv ((9 : Int32) + (p6 &&& (7 : Int32))), rv b152, iv (stF p2), iv (if (stF g2) = (stF p2) then (((stF g2) + (1 : Int32)) &&& (31 : Int32)) else (stF g2)), iv (((stF g3) + (1 : Int32)) &&& (31 : Int32)), .unset] [(.int 31), (.int ((((stF g3) + (1 : Int32)) &&& (31 : Int32)) + (1 : Int32)))]
                  refine G1 (XS.iand X167.here hx rfl (hb hby at_313) rfl) ?_
                  show Gs p e below QQ T167 m 314 #[iv p1, iv p2, iv p3, iv p4, iv p5, iv p6, iv 1, iv 0, iv g2, iv g3, iv ((9 : Int32) + (p6 &&& (7 : Int32))), rv b152, iv (stF p2), iv (if (stF g2) = (stF p2) then (((stF g2) + (1 : Int32)) &&& (31 : Int32)) else (stF g2)), iv (((stF g3) + (1 : Int32)) &&& (31 : Int32)), .unset] [(.int (((((stF g3) + (1 : Int32)) &&& (31 : Int32)) + (1 : Int32)) &&& (31 : Int32)))]
                  refine G1 (XS.istore X167.here hx rfl (hb hby at_314) rfl (l' := #[iv p1, iv p2, iv p3, iv p4, iv p5, iv p6, iv 1, iv 0, iv g2, iv g3, iv ((9 : Int32) + (p6 &&& (7 : Int32))), rv b152, iv (stF p2), iv (if (stF g2) = (stF p2) then (((stF g2) + (1 : Int32)) &&& (31 : Int32)) else (stF g2)), iv (((((stF g3) + (1 : Int32)) &&& (31 : Int32)) + (1 : Int32)) &&& (31 : Int32)), .unset]) rfl) ?_
                  show Goes p e below QQ (T167.setTop (mkF m 316 #[iv p1, iv p2, iv p3, iv p4, iv p5, iv p6, iv 1, iv 0, iv g2, iv g3, iv ((9 : Int32) + (p6 &&& (7 : Int32))), rv b152, iv (stF p2), iv (if (stF g2) = (stF p2) then (((stF g2) + (1 : Int32)) &&& (31 : Int32)) else (stF g2)), iv (((((stF g3) + (1 : Int32)) &&& (31 : Int32)) + (1 : Int32)) &&& (31 : Int32)), .unset] []))
                  rw [(((if_neg hb177).trans ((if_pos hb180).trans ((if_pos hb181).trans rfl))) : (if (stF g3) = (stF p2) then (if (((stF g3) + (1 : Int32)) &&& (31 : Int32)) = (stF p2) then (((((stF g3) + (1 : Int32)) &&& (31 : Int32)) + (1 : Int32)) &&& (31 : Int32)) else (if (((stF g3) + (1 : Int32)) &&& (31 : Int32)) = (if (stF g2) = (stF p2) then (((stF g2) + (1 : Int32)) &&& (31 : Int32)) else (stF g2)) then (((((stF g3) + (1 : Int32)) &&& (31 : Int32)) + (1 : Int32)) &&& (31 : Int32)) else (((stF g3) + (1 : Int32)) &&& (31 : Int32)))) else (if (stF g3) = (if (stF g2) = (stF p2) then (((stF g2) + (1 : Int32)) &&& (31 : Int32)) else (stF g2)) then (if (((stF g3) + (1 : Int32)) &&& (31 : Int32)) = (stF p2) then (((((stF g3) + (1 : Int32)) &&& (31 : Int32)) + (1 : Int32)) &&& (31 : Int32)) else (if (((stF g3) + (1 : Int32)) &&& (31 : Int32)) = (if (stF g2) = (stF p2) then (((stF g2) + (1 : Int32)) &&& (31 : Int32)) else (stF g2)) then (((((stF g3) + (1 : Int32)) &&& (31 : Int32)) + (1 : Int32)) &&& (31 : Int32)) else (((stF g3) + (1 : Int32)) &&& (31 : Int32)))) else (stF g3))) = (((((stF g3) + (1 : Int32)) &&& (31 : Int32)) + (1 : Int32)) &&& (31 : Int32)))] at J168
                  exact J168 _ _ X167 e167 N167
                · refine G1 (XS.icmpNo X167.here hx rfl (hb hby at_297) rfl (feq hb181).1) ?_
                  show Gs p e below QQ T167 m 300 #[iv p1, iv p2, iv p3, iv p4, iv p5, iv p6, iv 1, iv 0, iv g2, iv g3, iv ((9 : Int32) + (p6 &&& (7 : Int32))), rv b152, iv (stF p2), iv (if (stF g2) = (stF p2) then (((stF g2) + (1 : Int32)) &&& (31 : Int32)) else (stF g2)), iv (((stF g3) + (1 : Int32)) &&& (31 : Int32)), .unset] []
                  refine G1 (XS.iload X167.here hx rfl (hb hby at_300) rfl) ?_
                  refine G1 (XS.iload X167.here hx rfl (hb hby at_302) rfl) ?_
                  show Goes p e below QQ (T167.setTop (mkF m 304 #[iv p1, iv p2, iv p3, iv p4, iv p5, iv p6, iv 1, iv 0, iv g2, iv g3, iv ((9 : Int32) + (p6 &&& (7 : Int32))), rv b152, iv (stF p2), iv (if (stF g2) = (stF p2) then (((stF g2) + (1 : Int32)) &&& (31 : Int32)) else (stF g2)), iv (((stF g3) + (1 : Int32)) &&& (31 : Int32)), .unset] [(.int (if (stF g2) = (stF p2) then (((stF g2) + (1 : Int32)) &&& (31 : Int32)) else (stF g2))), (.int (((stF g3) + (1 : Int32)) &&& (31 : Int32)))]))
                  by_cases hb182 : (((stF g3) + (1 : Int32)) &&& (31 : Int32)) = (if (stF g2) = (stF p2) then (((stF g2) + (1 : Int32)) &&& (31 : Int32)) else (stF g2))
                  · refine G1 (XS.icmpNo X167.here hx rfl (hb hby at_304) rfl (teq hb182).2) ?_
                    show Gs p e below QQ T167 m 307 #[iv p1, iv p2, iv p3, iv p4, iv p5, iv p6, iv 1, iv 0, iv g2, iv g3, iv ((9 : Int32) + (p6 &&& (7 : Int32))), rv b152, iv (stF p2), iv (if (stF g2) = (stF p2) then (((stF g2) + (1 : Int32)) &&& (31 : Int32)) else (stF g2)), iv (((stF g3) + (1 : Int32)) &&& (31 : Int32)), .unset] []
                    refine G1 (XS.iload X167.here hx rfl (hb hby at_307) rfl) ?_
                    refine G1 (XS.iconst X167.here hx rfl (hb hby at_309)) ?_
                    show Gs p e below QQ T167 m 310 #[iv p1, iv p2, iv p3, iv p4, iv p5, iv p6, iv 1, iv 0, iv g2, iv g3, iv ((9 : Int32) + (p6 &&& (7 : Int32))), rv b152, iv (stF p2), iv (if (stF g2) = (stF p2) then (((stF g2) + (1 : Int32)) &&& (31 : Int32)) else (stF g2)), iv (((stF g3) + (1 : Int32)) &&& (31 : Int32)), .unset] [(.int 1), (.int (((stF g3) + (1 : Int32)) &&& (31 : Int32)))]
                    refine G1 (XS.iadd X167.here hx rfl (hb hby at_310) rfl) ?_
                    show Gs p e below QQ T167 m 311 #[iv p1, iv p2, iv p3, iv p4, iv p5, iv p6, iv 1, iv 0, iv g2, iv g3, iv ((9 : Int32) + (p6 &&& (7 : Int32))), rv b152, iv (stF p2), iv (if (stF g2) = (stF p2) then (((stF g2) + (1 : Int32)) &&& (31 : Int32)) else (stF g2)), iv (((stF g3) + (1 : Int32)) &&& (31 : Int32)), .unset] [(.int ((((stF g3) + (1 : Int32)) &&& (31 : Int32)) + (1 : Int32)))]
                    refine G1 (XS.bipush X167.here hx rfl (hb hby at_311)) ?_
                    show Gs p e below QQ T167 m 313 #[iv p1, iv p2, iv p3, iv p4, iv p5, iv p6, iv 1, iv 0, iv g2, iv g3, iv ((9 : Int32) + (p6 &&& (7 : Int32))), rv b152, iv (stF p2), iv (if (stF g2) = (stF p2) then (((stF g2) + (1 : Int32)) &&& (31 : Int32)) else (stF g2)), iv (((stF g3) + (1 : Int32)) &&& (31 : Int32)), .unset] [(.int 31), (.int ((((stF g3) + (1 : Int32)) &&& (31 : Int32)) + (1 : Int32)))]
                    refine G1 (XS.iand X167.here hx rfl (hb hby at_313) rfl) ?_
                    show Gs p e below QQ T167 m 314 #[iv p1, iv p2, iv p3, iv p4, iv p5, iv p6, iv 1, iv 0, iv g2, iv g3, iv ((9 : Int32) + (p6 &&& (7 : Int32))), rv b152, iv (stF p2), iv (if (stF g2) = (stF p2) then (((stF g2) + (1 : Int32)) &&& (31 : Int32)) else (stF g2)), iv (((stF g3) + (1 : Int32)) &&& (31 : Int32)), .unset] [(.int (((((stF g3) + (1 : Int32)) &&& (31 : Int32)) + (1 : Int32)) &&& (31 : Int32)))]
                    refine G1 (XS.istore X167.here hx rfl (hb hby at_314) rfl (l' := #[iv p1, iv p2, iv p3, iv p4, iv p5, iv p6, iv 1, iv 0, iv g2, iv g3, iv ((9 : Int32) + (p6 &&& (7 : Int32))), rv b152, iv (stF p2), iv (if (stF g2) = (stF p2) then (((stF g2) + (1 : Int32)) &&& (31 : Int32)) else (stF g2)), iv (((((stF g3) + (1 : Int32)) &&& (31 : Int32)) + (1 : Int32)) &&& (31 : Int32)), .unset]) rfl) ?_
                    show Goes p e below QQ (T167.setTop (mkF m 316 #[iv p1, iv p2, iv p3, iv p4, iv p5, iv p6, iv 1, iv 0, iv g2, iv g3, iv ((9 : Int32) + (p6 &&& (7 : Int32))), rv b152, iv (stF p2), iv (if (stF g2) = (stF p2) then (((stF g2) + (1 : Int32)) &&& (31 : Int32)) else (stF g2)), iv (((((stF g3) + (1 : Int32)) &&& (31 : Int32)) + (1 : Int32)) &&& (31 : Int32)), .unset] []))
                    rw [(((if_neg hb177).trans ((if_pos hb180).trans ((if_neg hb181).trans ((if_pos hb182).trans rfl)))) : (if (stF g3) = (stF p2) then (if (((stF g3) + (1 : Int32)) &&& (31 : Int32)) = (stF p2) then (((((stF g3) + (1 : Int32)) &&& (31 : Int32)) + (1 : Int32)) &&& (31 : Int32)) else (if (((stF g3) + (1 : Int32)) &&& (31 : Int32)) = (if (stF g2) = (stF p2) then (((stF g2) + (1 : Int32)) &&& (31 : Int32)) else (stF g2)) then (((((stF g3) + (1 : Int32)) &&& (31 : Int32)) + (1 : Int32)) &&& (31 : Int32)) else (((stF g3) + (1 : Int32)) &&& (31 : Int32)))) else (if (stF g3) = (if (stF g2) = (stF p2) then (((stF g2) + (1 : Int32)) &&& (31 : Int32)) else (stF g2)) then (if (((stF g3) + (1 : Int32)) &&& (31 : Int32)) = (stF p2) then (((((stF g3) + (1 : Int32)) &&& (31 : Int32)) + (1 : Int32)) &&& (31 : Int32)) else (if (((stF g3) + (1 : Int32)) &&& (31 : Int32)) = (if (stF g2) = (stF p2) then (((stF g2) + (1 : Int32)) &&& (31 : Int32)) else (stF g2)) then (((((stF g3) + (1 : Int32)) &&& (31 : Int32)) + (1 : Int32)) &&& (31 : Int32)) else (((stF g3) + (1 : Int32)) &&& (31 : Int32)))) else (stF g3))) = (((((stF g3) + (1 : Int32)) &&& (31 : Int32)) + (1 : Int32)) &&& (31 : Int32)))] at J168
                    exact J168 _ _ X167 e167 N167
                  · refine G1 (XS.icmpYes X167.here hx rfl (pc0 := 304) (pc' := 316) rfl (hb hby at_304) rfl (feq hb182).2 (by decide) (by decide)) ?_
                    show Goes p e below QQ (T167.setTop (mkF m 316 #[iv p1, iv p2, iv p3, iv p4, iv p5, iv p6, iv 1, iv 0, iv g2, iv g3, iv ((9 : Int32) + (p6 &&& (7 : Int32))), rv b152, iv (stF p2), iv (if (stF g2) = (stF p2) then (((stF g2) + (1 : Int32)) &&& (31 : Int32)) else (stF g2)), iv (((stF g3) + (1 : Int32)) &&& (31 : Int32)), .unset] []))
                    rw [(((if_neg hb177).trans ((if_pos hb180).trans ((if_neg hb181).trans ((if_neg hb182).trans rfl)))) : (if (stF g3) = (stF p2) then (if (((stF g3) + (1 : Int32)) &&& (31 : Int32)) = (stF p2) then (((((stF g3) + (1 : Int32)) &&& (31 : Int32)) + (1 : Int32)) &&& (31 : Int32)) else (if (((stF g3) + (1 : Int32)) &&& (31 : Int32)) = (if (stF g2) = (stF p2) then (((stF g2) + (1 : Int32)) &&& (31 : Int32)) else (stF g2)) then (((((stF g3) + (1 : Int32)) &&& (31 : Int32)) + (1 : Int32)) &&& (31 : Int32)) else (((stF g3) + (1 : Int32)) &&& (31 : Int32)))) else (if (stF g3) = (if (stF g2) = (stF p2) then (((stF g2) + (1 : Int32)) &&& (31 : Int32)) else (stF g2)) then (if (((stF g3) + (1 : Int32)) &&& (31 : Int32)) = (stF p2) then (((((stF g3) + (1 : Int32)) &&& (31 : Int32)) + (1 : Int32)) &&& (31 : Int32)) else (if (((stF g3) + (1 : Int32)) &&& (31 : Int32)) = (if (stF g2) = (stF p2) then (((stF g2) + (1 : Int32)) &&& (31 : Int32)) else (stF g2)) then (((((stF g3) + (1 : Int32)) &&& (31 : Int32)) + (1 : Int32)) &&& (31 : Int32)) else (((stF g3) + (1 : Int32)) &&& (31 : Int32)))) else (stF g3))) = (((stF g3) + (1 : Int32)) &&& (31 : Int32)))] at J168
                    exact J168 _ _ X167 e167 N167
              · refine G1 (XS.icmpYes X167.here hx rfl (pc0 := 281) (pc' := 316) rfl (hb hby at_281) rfl (feq hb180).2 (by decide) (by decide)) ?_
                show Goes p e below QQ (T167.setTop (mkF m 316 #[iv p1, iv p2, iv p3, iv p4, iv p5, iv p6, iv 1, iv 0, iv g2, iv g3, iv ((9 : Int32) + (p6 &&& (7 : Int32))), rv b152, iv (stF p2), iv (if (stF g2) = (stF p2) then (((stF g2) + (1 : Int32)) &&& (31 : Int32)) else (stF g2)), iv (stF g3), .unset] []))
                rw [(((if_neg hb177).trans ((if_neg hb180).trans rfl)) : (if (stF g3) = (stF p2) then (if (((stF g3) + (1 : Int32)) &&& (31 : Int32)) = (stF p2) then (((((stF g3) + (1 : Int32)) &&& (31 : Int32)) + (1 : Int32)) &&& (31 : Int32)) else (if (((stF g3) + (1 : Int32)) &&& (31 : Int32)) = (if (stF g2) = (stF p2) then (((stF g2) + (1 : Int32)) &&& (31 : Int32)) else (stF g2)) then (((((stF g3) + (1 : Int32)) &&& (31 : Int32)) + (1 : Int32)) &&& (31 : Int32)) else (((stF g3) + (1 : Int32)) &&& (31 : Int32)))) else (if (stF g3) = (if (stF g2) = (stF p2) then (((stF g2) + (1 : Int32)) &&& (31 : Int32)) else (stF g2)) then (if (((stF g3) + (1 : Int32)) &&& (31 : Int32)) = (stF p2) then (((((stF g3) + (1 : Int32)) &&& (31 : Int32)) + (1 : Int32)) &&& (31 : Int32)) else (if (((stF g3) + (1 : Int32)) &&& (31 : Int32)) = (if (stF g2) = (stF p2) then (((stF g2) + (1 : Int32)) &&& (31 : Int32)) else (stF g2)) then (((((stF g3) + (1 : Int32)) &&& (31 : Int32)) + (1 : Int32)) &&& (31 : Int32)) else (((stF g3) + (1 : Int32)) &&& (31 : Int32)))) else (stF g3))) = (stF g3))] at J168
                exact J168 _ _ X167 e167 N167
          show Goes p e below QQ (T165.setTop (mkF m 249 #[iv p1, iv p2, iv p3, iv p4, iv p5, iv p6, iv 1, iv 0, iv g2, iv g3, iv ((9 : Int32) + (p6 &&& (7 : Int32))), rv b152, iv (stF p2), iv (stF g2), .unset, .unset] [(.int (stF p2)), (.int (stF g2))]))
          by_cases hb183 : (stF g2) = (stF p2)
          · refine G1 (XS.icmpNo X165.here hx rfl (hb hby at_249) rfl (teq hb183).2) ?_
            show Gs p e below QQ T165 m 252 #[iv p1, iv p2, iv p3, iv p4, iv p5, iv p6, iv 1, iv 0, iv g2, iv g3, iv ((9 : Int32) + (p6 &&& (7 : Int32))), rv b152, iv (stF p2), iv (stF g2), .unset, .unset] []
            refine G1 (XS.iload X165.here hx rfl (hb hby at_252) rfl) ?_
            refine G1 (XS.iconst X165.here hx rfl (hb hby at_254)) ?_
            show Gs p e below QQ T165 m 255 #[iv p1, iv p2, iv p3, iv p4, iv p5, iv p6, iv 1, iv 0, iv g2, iv g3, iv ((9 : Int32) + (p6 &&& (7 : Int32))), rv b152, iv (stF p2), iv (stF g2), .unset, .unset] [(.int 1), (.int (stF g2))]
            refine G1 (XS.iadd X165.here hx rfl (hb hby at_255) rfl) ?_
            show Gs p e below QQ T165 m 256 #[iv p1, iv p2, iv p3, iv p4, iv p5, iv p6, iv 1, iv 0, iv g2, iv g3, iv ((9 : Int32) + (p6 &&& (7 : Int32))), rv b152, iv (stF p2), iv (stF g2), .unset, .unset] [(.int ((stF g2) + (1 : Int32)))]
            refine G1 (XS.bipush X165.here hx rfl (hb hby at_256)) ?_
            show Gs p e below QQ T165 m 258 #[iv p1, iv p2, iv p3, iv p4, iv p5, iv p6, iv 1, iv 0, iv g2, iv g3, iv ((9 : Int32) + (p6 &&& (7 : Int32))), rv b152, iv (stF p2), iv (stF g2), .unset, .unset] [(.int 31), (.int ((stF g2) + (1 : Int32)))]
            refine G1 (XS.iand X165.here hx rfl (hb hby at_258) rfl) ?_
            show Gs p e below QQ T165 m 259 #[iv p1, iv p2, iv p3, iv p4, iv p5, iv p6, iv 1, iv 0, iv g2, iv g3, iv ((9 : Int32) + (p6 &&& (7 : Int32))), rv b152, iv (stF p2), iv (stF g2), .unset, .unset] [(.int (((stF g2) + (1 : Int32)) &&& (31 : Int32)))]
            refine G1 (XS.istore X165.here hx rfl (hb hby at_259) rfl (l' := #[iv p1, iv p2, iv p3, iv p4, iv p5, iv p6, iv 1, iv 0, iv g2, iv g3, iv ((9 : Int32) + (p6 &&& (7 : Int32))), rv b152, iv (stF p2), iv (((stF g2) + (1 : Int32)) &&& (31 : Int32)), .unset, .unset]) rfl) ?_
            show Goes p e below QQ (T165.setTop (mkF m 261 #[iv p1, iv p2, iv p3, iv p4, iv p5, iv p6, iv 1, iv 0, iv g2, iv g3, iv ((9 : Int32) + (p6 &&& (7 : Int32))), rv b152, iv (stF p2), iv (((stF g2) + (1 : Int32)) &&& (31 : Int32)), .unset, .unset] []))
            rw [(((if_pos hb183).trans rfl) : (if (stF g2) = (stF p2) then (((stF g2) + (1 : Int32)) &&& (31 : Int32)) else (stF g2)) = (((stF g2) + (1 : Int32)) &&& (31 : Int32)))] at J166
            exact J166 _ _ X165 e165 N165
          · refine G1 (XS.icmpYes X165.here hx rfl (pc0 := 249) (pc' := 261) rfl (hb hby at_249) rfl (feq hb183).2 (by decide) (by decide)) ?_
            show Goes p e below QQ (T165.setTop (mkF m 261 #[iv p1, iv p2, iv p3, iv p4, iv p5, iv p6, iv 1, iv 0, iv g2, iv g3, iv ((9 : Int32) + (p6 &&& (7 : Int32))), rv b152, iv (stF p2), iv (stF g2), .unset, .unset] []))
            rw [(((if_neg hb183).trans rfl) : (if (stF g2) = (stF p2) then (((stF g2) + (1 : Int32)) &&& (31 : Int32)) else (stF g2)) = (stF g2))] at J166
            exact J166 _ _ X165 e165 N165
        show Goes p e below QQ (TJ150.setTop (mkF m 38 #[iv p1, iv p2, iv p3, iv p4, iv p5, iv p6, iv 1, iv 0, iv (if (p1 &&& (8 : Int32)) = (0 : Int32) then p3 else p2), .unset, .unset, .unset, .unset, .unset, .unset, .unset] [(.int (p1 &&& (16 : Int32)))]))
        by_cases hb184 : (p1 &&& (16 : Int32)) = (0 : Int32)
        · refine G1 (XS.ifYes XJ150.here hx rfl (pc0 := 38) (pc' := 45) rfl (hb hby at_38) rfl ((if0 _ _).trans (teq hb184).1) (by decide) (by decide)) ?_
          show Gs p e below QQ TJ150 m 45 #[iv p1, iv p2, iv p3, iv p4, iv p5, iv p6, iv 1, iv 0, iv (if (p1 &&& (8 : Int32)) = (0 : Int32) then p3 else p2), .unset, .unset, .unset, .unset, .unset, .unset, .unset] []
          refine G1 (XS.iloadN XJ150.here hx rfl (hb hby at_45) rfl) ?_
          refine G1 (XS.bipush XJ150.here hx rfl (hb hby at_46)) ?_
          show Gs p e below QQ TJ150 m 48 #[iv p1, iv p2, iv p3, iv p4, iv p5, iv p6, iv 1, iv 0, iv (if (p1 &&& (8 : Int32)) = (0 : Int32) then p3 else p2), .unset, .unset, .unset, .unset, .unset, .unset, .unset] [(.int 32), (.int p1)]
          refine G1 (XS.iand XJ150.here hx rfl (hb hby at_48) rfl) ?_
          show Goes p e below QQ (TJ150.setTop (mkF m 49 #[iv p1, iv p2, iv p3, iv p4, iv p5, iv p6, iv 1, iv 0, iv (if (p1 &&& (8 : Int32)) = (0 : Int32) then p3 else p2), .unset, .unset, .unset, .unset, .unset, .unset, .unset] [(.int (p1 &&& (32 : Int32)))]))
          by_cases hb185 : (p1 &&& (32 : Int32)) = (0 : Int32)
          · refine G1 (XS.ifYes XJ150.here hx rfl (pc0 := 49) (pc' := 57) rfl (hb hby at_49) rfl ((if0 _ _).trans (teq hb185).1) (by decide) (by decide)) ?_
            show Gs p e below QQ TJ150 m 57 #[iv p1, iv p2, iv p3, iv p4, iv p5, iv p6, iv 1, iv 0, iv (if (p1 &&& (8 : Int32)) = (0 : Int32) then p3 else p2), .unset, .unset, .unset, .unset, .unset, .unset, .unset] []
            refine G1 (XS.iloadN XJ150.here hx rfl (hb hby at_57) rfl) ?_
            show Goes p e below QQ (TJ150.setTop (mkF m 58 #[iv p1, iv p2, iv p3, iv p4, iv p5, iv p6, iv 1, iv 0, iv (if (p1 &&& (8 : Int32)) = (0 : Int32) then p3 else p2), .unset, .unset, .unset, .unset, .unset, .unset, .unset] [(.int p4)]))
            rw [(((if_pos hb184).trans ((if_pos hb185).trans rfl)) : (if (p1 &&& (16 : Int32)) = (0 : Int32) then (if (p1 &&& (32 : Int32)) = (0 : Int32) then p4 else (if (p1 &&& (8 : Int32)) = (0 : Int32) then p3 else p2)) else p2) = p4)] at J151
            exact J151 _ _ XJ150 eJ150 NJ150
          · refine G1 (XS.ifNo XJ150.here hx rfl (hb hby at_49) rfl ((if0 _ _).trans (feq hb185).1)) ?_
            show Gs p e below QQ TJ150 m 52 #[iv p1, iv p2, iv p3, iv p4, iv p5, iv p6, iv 1, iv 0, iv (if (p1 &&& (8 : Int32)) = (0 : Int32) then p3 else p2), .unset, .unset, .unset, .unset, .unset, .unset, .unset] []
            refine G1 (XS.iload XJ150.here hx rfl (hb hby at_52) rfl) ?_
            refine G1 (XS.goto XJ150.here hx rfl (pc0 := 54) (pc' := 58) rfl (hb hby at_54) (by decide) (by decide)) ?_
            show Goes p e below QQ (TJ150.setTop (mkF m 58 #[iv p1, iv p2, iv p3, iv p4, iv p5, iv p6, iv 1, iv 0, iv (if (p1 &&& (8 : Int32)) = (0 : Int32) then p3 else p2), .unset, .unset, .unset, .unset, .unset, .unset, .unset] [(.int (if (p1 &&& (8 : Int32)) = (0 : Int32) then p3 else p2))]))
            rw [(((if_pos hb184).trans ((if_neg hb185).trans rfl)) : (if (p1 &&& (16 : Int32)) = (0 : Int32) then (if (p1 &&& (32 : Int32)) = (0 : Int32) then p4 else (if (p1 &&& (8 : Int32)) = (0 : Int32) then p3 else p2)) else p2) = (if (p1 &&& (8 : Int32)) = (0 : Int32) then p3 else p2))] at J151
            exact J151 _ _ XJ150 eJ150 NJ150
        · refine G1 (XS.ifNo XJ150.here hx rfl (hb hby at_38) rfl ((if0 _ _).trans (feq hb184).1)) ?_
          show Gs p e below QQ TJ150 m 41 #[iv p1, iv p2, iv p3, iv p4, iv p5, iv p6, iv 1, iv 0, iv (if (p1 &&& (8 : Int32)) = (0 : Int32) then p3 else p2), .unset, .unset, .unset, .unset, .unset, .unset, .unset] []
          refine G1 (XS.iloadN XJ150.here hx rfl (hb hby at_41) rfl) ?_
          refine G1 (XS.goto XJ150.here hx rfl (pc0 := 42) (pc' := 58) rfl (hb hby at_42) (by decide) (by decide)) ?_
          show Goes p e below QQ (TJ150.setTop (mkF m 58 #[iv p1, iv p2, iv p3, iv p4, iv p5, iv p6, iv 1, iv 0, iv (if (p1 &&& (8 : Int32)) = (0 : Int32) then p3 else p2), .unset, .unset, .unset, .unset, .unset, .unset, .unset] [(.int p2)]))
          rw [(((if_neg hb184).trans rfl) : (if (p1 &&& (16 : Int32)) = (0 : Int32) then (if (p1 &&& (32 : Int32)) = (0 : Int32) then p4 else (if (p1 &&& (8 : Int32)) = (0 : Int32) then p3 else p2)) else p2) = p2)] at J151
          exact J151 _ _ XJ150 eJ150 NJ150
      show Goes p e below QQ (s₁.setTop (mkF m 24 #[iv p1, iv p2, iv p3, iv p4, iv p5, iv p6, iv 1, iv 0, .unset, .unset, .unset, .unset, .unset, .unset, .unset, .unset] [(.int (p1 &&& (8 : Int32)))]))
      by_cases hb186 : (p1 &&& (8 : Int32)) = (0 : Int32)
      · refine G1 (XS.ifYes X0.here hx rfl (pc0 := 24) (pc' := 31) rfl (hb hby at_24) rfl ((if0 _ _).trans (teq hb186).1) (by decide) (by decide)) ?_
        show Gs p e below QQ s₁ m 31 #[iv p1, iv p2, iv p3, iv p4, iv p5, iv p6, iv 1, iv 0, .unset, .unset, .unset, .unset, .unset, .unset, .unset, .unset] []
        refine G1 (XS.iloadN X0.here hx rfl (hb hby at_31) rfl) ?_
        show Goes p e below QQ (s₁.setTop (mkF m 32 #[iv p1, iv p2, iv p3, iv p4, iv p5, iv p6, iv 1, iv 0, .unset, .unset, .unset, .unset, .unset, .unset, .unset, .unset] [(.int p3)]))
        rw [(((if_pos hb186).trans rfl) : (if (p1 &&& (8 : Int32)) = (0 : Int32) then p3 else p2) = p3)] at J150
        exact J150 _ _ X0 e0 N0
      · refine G1 (XS.ifNo X0.here hx rfl (hb hby at_24) rfl ((if0 _ _).trans (feq hb186).1)) ?_
        show Gs p e below QQ s₁ m 27 #[iv p1, iv p2, iv p3, iv p4, iv p5, iv p6, iv 1, iv 0, .unset, .unset, .unset, .unset, .unset, .unset, .unset, .unset] []
        refine G1 (XS.iloadN X0.here hx rfl (hb hby at_27) rfl) ?_
        refine G1 (XS.goto X0.here hx rfl (pc0 := 28) (pc' := 32) rfl (hb hby at_28) (by decide) (by decide)) ?_
        show Goes p e below QQ (s₁.setTop (mkF m 32 #[iv p1, iv p2, iv p3, iv p4, iv p5, iv p6, iv 1, iv 0, .unset, .unset, .unset, .unset, .unset, .unset, .unset, .unset] [(.int p2)]))
        rw [(((if_neg hb186).trans rfl) : (if (p1 &&& (8 : Int32)) = (0 : Int32) then p3 else p2) = p2)] at J150
        exact J150 _ _ X0 e0 N0
    · rw [hk]
      show Goes p e below QQ (s₁.setTop (mkF m 20 #[iv p1, iv p2, iv p3, iv p4, iv p5, iv p6, iv 1, iv 1, .unset, .unset, .unset, .unset, .unset, .unset, .unset, .unset] []))
      refine G1 (XS.iloadN X0.here hx rfl (hb hby at_20) rfl) ?_
      refine G1 (XS.bipush X0.here hx rfl (hb hby at_21)) ?_
      show Gs p e below QQ s₁ m 23 #[iv p1, iv p2, iv p3, iv p4, iv p5, iv p6, iv 1, iv 1, .unset, .unset, .unset, .unset, .unset, .unset, .unset, .unset] [(.int 8), (.int p1)]
      refine G1 (XS.iand X0.here hx rfl (hb hby at_23) rfl) ?_
      show Goes p e below QQ (s₁.setTop (mkF m 24 #[iv p1, iv p2, iv p3, iv p4, iv p5, iv p6, iv 1, iv 1, .unset, .unset, .unset, .unset, .unset, .unset, .unset, .unset] [(.int (p1 &&& (8 : Int32)))]))
      have J187 : ∀ (TJ187 : State) (lJ187 : List Loc), Stand p l e room_1 s m #[(.int p1), (.int p2), (.int p3), (.int p4), (.int p5), (.int p6)] below meth c TJ187 lJ187 0 0 → TJ187.heap = h0 → Fr n0 lJ187 → Goes p e below QQ (TJ187.setTop (mkF m 32 #[iv p1, iv p2, iv p3, iv p4, iv p5, iv p6, iv 1, iv 1, .unset, .unset, .unset, .unset, .unset, .unset, .unset, .unset] [(.int (if (p1 &&& (8 : Int32)) = (0 : Int32) then p3 else p2))])) := by
        intro TJ187 lJ187 XJ187 eJ187 NJ187
        refine G1 (XS.istore XJ187.here hx rfl (hb hby at_32) rfl (l' := #[iv p1, iv p2, iv p3, iv p4, iv p5, iv p6, iv 1, iv 1, iv (if (p1 &&& (8 : Int32)) = (0 : Int32) then p3 else p2), .unset, .unset, .unset, .unset, .unset, .unset, .unset]) rfl) ?_
        refine G1 (XS.iloadN XJ187.here hx rfl (hb hby at_34) rfl) ?_
        refine G1 (XS.bipush XJ187.here hx rfl (hb hby at_35)) ?_
        show Gs p e below QQ TJ187 m 37 #[iv p1, iv p2, iv p3, iv p4, iv p5, iv p6, iv 1, iv 1, iv (if (p1 &&& (8 : Int32)) = (0 : Int32) then p3 else p2), .unset, .unset, .unset, .unset, .unset, .unset, .unset] [(.int 16), (.int p1)]
        refine G1 (XS.iand XJ187.here hx rfl (hb hby at_37) rfl) ?_
        show Goes p e below QQ (TJ187.setTop (mkF m 38 #[iv p1, iv p2, iv p3, iv p4, iv p5, iv p6, iv 1, iv 1, iv (if (p1 &&& (8 : Int32)) = (0 : Int32) then p3 else p2), .unset, .unset, .unset, .unset, .unset, .unset, .unset] [(.int (p1 &&& (16 : Int32)))]))
        have J188 : ∀ (TJ188 : State) (lJ188 : List Loc), Stand p l e room_1 s m #[(.int p1), (.int p2), (.int p3), (.int p4), (.int p5), (.int p6)] below meth c TJ188 lJ188 0 0 → TJ188.heap = h0 → Fr n0 lJ188 → Goes p e below QQ (TJ188.setTop (mkF m 58 #[iv p1, iv p2, iv p3, iv p4, iv p5, iv p6, iv 1, iv 1, iv (if (p1 &&& (8 : Int32)) = (0 : Int32) then p3 else p2), .unset, .unset, .unset, .unset, .unset, .unset, .unset] [(.int (if (p1 &&& (16 : Int32)) = (0 : Int32) then (if (p1 &&& (32 : Int32)) = (0 : Int32) then p4 else (if (p1 &&& (8 : Int32)) = (0 : Int32) then p3 else p2)) else p2))])) := by
          intro TJ188 lJ188 XJ188 eJ188 NJ188
          refine G1 (XS.istore XJ188.here hx rfl (hb hby at_58) rfl (l' := #[iv p1, iv p2, iv p3, iv p4, iv p5, iv p6, iv 1, iv 1, iv (if (p1 &&& (8 : Int32)) = (0 : Int32) then p3 else p2), iv (if (p1 &&& (16 : Int32)) = (0 : Int32) then (if (p1 &&& (32 : Int32)) = (0 : Int32) then p4 else (if (p1 &&& (8 : Int32)) = (0 : Int32) then p3 else p2)) else p2), .unset, .unset, .unset, .unset, .unset, .unset]) rfl) ?_
          show Goes p e below QQ (TJ188.setTop (mkF m 60 #[iv p1, iv p2, iv p3, iv p4, iv p5, iv p6, iv 1, iv 1, iv (if (p1 &&& (8 : Int32)) = (0 : Int32) then p3 else p2), iv (if (p1 &&& (16 : Int32)) = (0 : Int32) then (if (p1 &&& (32 : Int32)) = (0 : Int32) then p4 else (if (p1 &&& (8 : Int32)) = (0 : Int32) then p3 else p2)) else p2), .unset, .unset, .unset, .unset, .unset, .unset] []))
          generalize (if (p1 &&& (16 : Int32)) = (0 : Int32) then (if (p1 &&& (32 : Int32)) = (0 : Int32) then p4 else (if (p1 &&& (8 : Int32)) = (0 : Int32) then p3 else p2)) else p2) = g3
          generalize (if (p1 &&& (8 : Int32)) = (0 : Int32) then p3 else p2) = g2
          show Goes p e below QQ (TJ188.setTop (mkF m 60 #[iv p1, iv p2, iv p3, iv p4, iv p5, iv p6, iv 1, iv 1, iv g2, iv g3, .unset, .unset, .unset, .unset, .unset, .unset] []))
          refine G1 (XS.iload XJ188.here hx rfl (hb hby at_60) rfl) ?_
          show Gs p e below QQ TJ188 m 62 #[iv p1, iv p2, iv p3, iv p4, iv p5, iv p6, iv 1, iv 1, iv g2, iv g3, .unset, .unset, .unset, .unset, .unset, .unset] [(.int 1)]
          refine G1 (XS.ifNo XJ188.here hx rfl (hb hby at_62) rfl ((if0 _ _).trans (feq (by decide)).1)) ?_
          show Gs p e below QQ TJ188 m 65 #[iv p1, iv p2, iv p3, iv p4, iv p5, iv p6, iv 1, iv 1, iv g2, iv g3, .unset, .unset, .unset, .unset, .unset, .unset] []
          refine G1 (XS.bipush XJ188.here hx rfl (hb hby at_65)) ?_
          refine G1 (XS.iload XJ188.here hx rfl (hb hby at_67) rfl) ?_
          refine G1 (XS.bipush XJ188.here hx rfl (hb hby at_69)) ?_
          show Gs p e below QQ TJ188 m 71 #[iv p1, iv p2, iv p3, iv p4, iv p5, iv p6, iv 1, iv 1, iv g2, iv g3, .unset, .unset, .unset, .unset, .unset, .unset] [(.int 7), (.int p6), (.int 9)]
          refine G1 (XS.iand XJ188.here hx rfl (hb hby at_71) rfl) ?_
          show Gs p e below QQ TJ188 m 72 #[iv p1, iv p2, iv p3, iv p4, iv p5, iv p6, iv 1, iv 1, iv g2, iv g3, .unset, .unset, .unset, .unset, .unset, .unset] [(.int (p6 &&& (7 : Int32))), (.int 9)]
          refine G1 (XS.iadd XJ188.here hx rfl (hb hby at_72) rfl) ?_
          show Gs p e below QQ TJ188 m 73 #[iv p1, iv p2, iv p3, iv p4, iv p5, iv p6, iv 1, iv 1, iv g2, iv g3, .unset, .unset, .unset, .unset, .unset, .unset] [(.int ((9 : Int32) + (p6 &&& (7 : Int32))))]
          refine G1 (XS.goto XJ188.here hx rfl (pc0 := 73) (pc' := 84) rfl (hb hby at_73) (by decide) (by decide)) ?_
          refine G1 (XS.istore XJ188.here hx rfl (hb hby at_84) rfl (l' := #[iv p1, iv p2, iv p3, iv p4, iv p5, iv p6, iv 1, iv 1, iv g2, iv g3, iv ((9 : Int32) + (p6 &&& (7 : Int32))), .unset, .unset, .unset, .unset, .unset]) rfl) ?_
          show Goes p e below QQ (TJ188.setTop (mkF m 86 #[iv p1, iv p2, iv p3, iv p4, iv p5, iv p6, iv 1, iv 1, iv g2, iv g3, iv ((9 : Int32) + (p6 &&& (7 : Int32))), .unset, .unset, .unset, .unset, .unset] []))
          obtain ⟨T189, h189, X189, e189, E189, A189, D189, -, st189⟩ := newO XJ188 hx hZ hown (wI hw 0 rfl) (wI hw 1 rfl) (wI hw 2 rfl) eJ188 (g := (mkF m 86 #[iv p1, iv p2, iv p3, iv p4, iv p5, iv p6, iv 1, iv 1, iv g2, iv g3, iv ((9 : Int32) + (p6 &&& (7 : Int32))), .unset, .unset, .unset, .unset, .unset] [])) rfl (hb hby at_86) (by decide) (by decide)
          obtain ⟨b189, g189⟩ : ∃ z, z = h0.size := ⟨_, rfl⟩
          rw [← g189] at A189 D189 st189
          have sz_b189 : h0.size ≤ b189 := Nat.le_trans K0.1 (Nat.le_of_eq g189.symm)
          have g_b189 : n0 ≤ b189 := Nat.le_trans Z0 sz_b189
          have K189 := K0.ext E189
          have X189 : Stand p l e room_1 s m #[(.int p1), (.int p2), (.int p3), (.int p4), (.int p5), (.int p6)] below meth c T189 _ 1 4 := X189
          have F_190 : Fld Z h189 b189 "com/example/bindery/bindery/PartIndex" "hashes" "[I" .null := D189 (Or.inl (wI hw 22 rfl)) (ty := (.array .int)) (by decide)
          have F_191 : Fld Z h189 b189 "com/example/bindery/bindery/PartIndex" "slots" "[I" .null := D189 (Or.inl (wI hw 30 rfl)) (ty := (.array .int)) (by decide)
          have F_192 : Fld Z h189 b189 "com/example/bindery/bindery/PartIndex" "size" "I" (.int 0) := D189 (Or.inl (wI hw 32 rfl)) (ty := .int) (by decide)
          have F_193 : Fld Z h189 b189 "com/example/bindery/bindery/PartIndex" "shift" "I" (.int 0) := D189 (Or.inl (wI hw 61 rfl)) (ty := .int) (by decide)
          refine Goes.on (fun t k => st189 t k) ?_
          show Goes p e below QQ (T189.setTop (mkF m 89 #[iv p1, iv p2, iv p3, iv p4, iv p5, iv p6, iv 1, iv 1, iv g2, iv g3, iv ((9 : Int32) + (p6 &&& (7 : Int32))), .unset, .unset, .unset, .unset, .unset] [(.ref b189)]))
          refine G1 (XS.dup X189.here hx rfl (hb hby at_89) rfl rfl) ?_
          refine G1 (XS.iload X189.here hx rfl (hb hby at_90) rfl) ?_
          show Goes p e below QQ (T189.setTop (mkF m 92 #[iv p1, iv p2, iv p3, iv p4, iv p5, iv p6, iv 1, iv 1, iv g2, iv g3, iv ((9 : Int32) + (p6 &&& (7 : Int32))), .unset, .unset, .unset, .unset, .unset] [(.int ((9 : Int32) + (p6 &&& (7 : Int32)))), (.ref b189), (.ref b189)]))
          obtain ⟨nn, hr, hn⟩ := own_room1 p6
          obtain ⟨_, _, ⟨T194, L194, k194, n194⟩, -, X194, ⟨Lc194, hQ194, l194, y194, z194⟩, st194⟩ := X189.specialBack hx (y := (⟨"com/example/bindery/bindery/PartIndex", "<init>", "(I)V"⟩ : MethodName)) rfl hown (mvT hZ (wI hw 3 rfl)) (mvT hZ (wI hw 4 rfl)) (mvT hZ (wI hw 5 rfl)) (by decide) (backOf (W := 1) (rmIn1 l Z a0 hw [] b189 ((9 : Int32) + (p6 &&& (7 : Int32))) nn h189 n0 (Nat.le_trans Z0 K189.1) A189 F_190 F_191 F_193 F_192 g_b189 hr hn) hZ (wI hw 5 rfl) (wI hw 2 rfl) (by decide) (by decide)) (g := (mkF m 92 #[iv p1, iv p2, iv p3, iv p4, iv p5, iv p6, iv 1, iv 1, iv g2, iv g3, iv ((9 : Int32) + (p6 &&& (7 : Int32))), .unset, .unset, .unset, .unset, .unset] [(.int ((9 : Int32) + (p6 &&& (7 : Int32)))), (.ref b189), (.ref b189)])) rfl (by rw [hml]; rfl) (Steps.refl _) (a := b189) (argsL := [(.int ((9 : Int32) + (p6 &&& (7 : Int32))))]) (rest := [(.ref b189)]) (lenOf pd_2 rfl) rfl (by show 2 * 0 + _ ≤ _; exact Nat.le_of_eq rfl) (hb hby at_92) (fun _ _ => ⟨rfl, e189, (by decide : 1 + 2 ≤ _), (by decide : 4 + 48 ≤ _)⟩)
          dsimp only [Pt.U, Pt.locs, Pt.cells, Pt.slots] at X194 l194 y194 z194 st194 hQ194
          have l194 := l194.symm; have y194 := y194.symm; have z194 := z194.symm; subst l194 y194 z194
          have X194 : Stand p l e room_1 s m #[(.int p1), (.int p2), (.int p3), (.int p4), (.int p5), (.int p6)] below meth c T194 _ 3 52 := X194
          obtain ⟨bh, kh, bd, kd, rfl, M194, Kc, szh, szd, nehd, ⟨hashes_c, slots_c, shift_c, size_c⟩, Vh, Vd⟩ := hQ194
          have sz_bh : h0.size ≤ bh := Nat.le_trans K189.1 szh
          have g_bh : n0 ≤ bh := Nat.le_trans Z0 sz_bh
          have ne_b189_bh : b189 ≠ bh := Nat.ne_of_lt (Nat.lt_of_lt_of_le A189.lt szh)
          have sz_bd : h0.size ≤ bd := Nat.le_trans K189.1 szd
          have g_bd : n0 ≤ bd := Nat.le_trans Z0 sz_bd
          have ne_b189_bd : b189 ≠ bd := Nat.ne_of_lt (Nat.lt_of_lt_of_le A189.lt szd)
          have N194 := Fr.app NJ188 M194
          refine Goes.on (fun t k => st194.trans k) ?_
          have A189_195 := A189.keep Kc
          have K200 := K189.trans Kc (allS (Or.inr sz_b189) all0)
          show Goes p e below QQ (T194.setTop (mkF m 95 #[iv p1, iv p2, iv p3, iv p4, iv p5, iv p6, iv 1, iv 1, iv g2, iv g3, iv ((9 : Int32) + (p6 &&& (7 : Int32))), .unset, .unset, .unset, .unset, .unset] [(.ref b189)]))
          obtain ⟨S0, hS0⟩ : ∃ z : List Value, z = (List.replicate 32 (.int (0 : Int32))) := ⟨_, rfl⟩
          rw [← hS0] at Vd
          have HS0 : IntS S0 := by rw [hS0]; exact own_S0
          show Goes p e below QQ (T194.setTop (mkF m 95 #[iv p1, iv p2, iv p3, iv p4, iv p5, iv p6, iv 1, iv 1, iv g2, iv g3, iv ((9 : Int32) + (p6 &&& (7 : Int32))), .unset, .unset, .unset, .unset, .unset] [(.ref b189)]))
          refine G1 (XS.astore X194.here hx rfl (hb hby at_95) rfl rfl (l' := #[iv p1, iv p2, iv p3, iv p4, iv p5, iv p6, iv 1, iv 1, iv g2, iv g3, iv ((9 : Int32) + (p6 &&& (7 : Int32))), rv b189, .unset, .unset, .unset, .unset]) rfl) ?_
          refine G1 (XS.iload X194.here hx rfl (hb hby at_97) rfl) ?_
          refine G1 (XS.iconst X194.here hx rfl (hb hby at_99)) ?_
          show Gs p e below QQ T194 m 100 #[iv p1, iv p2, iv p3, iv p4, iv p5, iv p6, iv 1, iv 1, iv g2, iv g3, iv ((9 : Int32) + (p6 &&& (7 : Int32))), rv b189, .unset, .unset, .unset, .unset] [(.int 1), (.int 1)]
          refine G1 (XS.icmpNo X194.here hx rfl (hb hby at_100) rfl (flt (by decide)).1) ?_
          show Gs p e below QQ T194 m 103 #[iv p1, iv p2, iv p3, iv p4, iv p5, iv p6, iv 1, iv 1, iv g2, iv g3, iv ((9 : Int32) + (p6 &&& (7 : Int32))), rv b189, .unset, .unset, .unset, .unset] []
          refine G1 (XS.aload X194.here hx rfl (hb hby at_103) rfl rfl) ?_
          refine G1 (XS.iloadN X194.here hx rfl (hb hby at_105) rfl) ?_
          show Goes p e below QQ (T194.setTop (mkF m 106 #[iv p1, iv p2, iv p3, iv p4, iv p5, iv p6, iv 1, iv 1, iv g2, iv g3, iv ((9 : Int32) + (p6 &&& (7 : Int32))), rv b189, .unset, .unset, .unset, .unset] [(.int p2), (.ref b189)]))
          have HF0 := own_free0 S0 hS0 p2
          obtain ⟨cq201, kq201, q201a, q201b, q201c⟩ := isOf hZ rfl A189_195
          obtain ⟨_, _, ⟨T201, L201, k201, n201⟩, -, X201, ⟨Lc201, hQ201, l201, y201, z201⟩, st201⟩ := X194.virtualBack hx (y := (⟨"com/example/bindery/bindery/PartIndex", "add", "(I)V"⟩ : MethodName)) (z := (⟨"com/example/bindery/bindery/PartIndex", "add", "(I)V"⟩ : MethodName)) hown (mvT hZ (wI hw 37 rfl)) (mvT hZ (wI hw 38 rfl)) (notFace_of_selects (args := #[]) (mvT hZ (wI hw 40 rfl))) (mvT hZ (wI hw 40 rfl)) (mvT hZ (wI hw 39 rfl)) (by decide) (backOf (W := 0) (rmA1_0 l Z a0 hw [] b189 bh bd p2 kh kd nn (0 : Int32) (0 : Int32) (0 : Int32) S0 T194.heap n0 (Nat.le_trans Z0 K200.1) A189_195 hashes_c slots_c shift_c size_c Vh Vd g_b189 g_bh g_bd ne_b189_bh ne_b189_bd nehd (own_lt9 (0 : Int32) nn hn (by decide)) HS0 HF0) hZ (wI hw 41 rfl) (wI hw 2 rfl) (by decide) (by decide)) q201a q201c (g := (mkF m 106 #[iv p1, iv p2, iv p3, iv p4, iv p5, iv p6, iv 1, iv 1, iv g2, iv g3, iv ((9 : Int32) + (p6 &&& (7 : Int32))), rv b189, .unset, .unset, .unset, .unset] [(.int p2), (.ref b189)])) rfl (by rw [hml]; rfl) (Steps.refl _) (argsL := [(.int p2)]) (rest := []) (lenOf pd_2 rfl) rfl (by show 2 * 0 + _ ≤ _; exact Nat.le_of_eq rfl) (hb hby at_106) (fun _ _ => ⟨rfl, rfl, (by decide : 3 + 0 ≤ _), (by decide : 52 + 0 ≤ _)⟩)
          dsimp only [Pt.U, Pt.locs, Pt.cells, Pt.slots] at X201 l201 y201 z201 st201 hQ201
          have l201 := l201.symm; have y201 := y201.symm; have z201 := z201.symm; subst l201 y201 z201
          have X201 : Stand p l e room_1 s m #[(.int p1), (.int p2), (.int p3), (.int p4), (.int p5), (.int p6)] below meth c T201 _ 3 52 := X201
          obtain ⟨rfl, M201, Kca0, ⟨hashes_a0, slots_a0, shift_a0, size_a0⟩, Vha0, Vda0⟩ := hQ201
          have N201 := Fr.app N194 M201
          refine Goes.on (fun t k => st201.trans k) ?_
          have A189_202 := A189_195.keep Kca0
          have K209 := K200.trans Kca0 (allS (Or.inr sz_b189) (allS (Or.inr sz_bh) (allS (Or.inr sz_bd) all0)))
          show Goes p e below QQ (T201.setTop (mkF m 109 #[iv p1, iv p2, iv p3, iv p4, iv p5, iv p6, iv 1, iv 1, iv g2, iv g3, iv ((9 : Int32) + (p6 &&& (7 : Int32))), rv b189, .unset, .unset, .unset, .unset] []))
          obtain ⟨S1, hS1⟩ : ∃ z : List Value, z = S0.set (prF S0 (stF p2)).toNatClampNeg (.int (1 : Int32)) := ⟨_, rfl⟩
          rw [← hS1] at Vda0
          have HS1 : IntS S1 := by rw [hS1]; exact own_IntS _ _ _ HS0
          show Goes p e below QQ (T201.setTop (mkF m 109 #[iv p1, iv p2, iv p3, iv p4, iv p5, iv p6, iv 1, iv 1, iv g2, iv g3, iv ((9 : Int32) + (p6 &&& (7 : Int32))), rv b189, .unset, .unset, .unset, .unset] []))
          refine G1 (XS.iload X201.here hx rfl (hb hby at_109) rfl) ?_
          refine G1 (XS.iconst X201.here hx rfl (hb hby at_111)) ?_
          show Gs p e below QQ T201 m 112 #[iv p1, iv p2, iv p3, iv p4, iv p5, iv p6, iv 1, iv 1, iv g2, iv g3, iv ((9 : Int32) + (p6 &&& (7 : Int32))), rv b189, .unset, .unset, .unset, .unset] [(.int 2), (.int 1)]
          refine G1 (XS.icmpYes X201.here hx rfl (pc0 := 112) (pc' := 122) rfl (hb hby at_112) rfl (tlt (by decide)).1 (by decide) (by decide)) ?_
          show Gs p e below QQ T201 m 122 #[iv p1, iv p2, iv p3, iv p4, iv p5, iv p6, iv 1, iv 1, iv g2, iv g3, iv ((9 : Int32) + (p6 &&& (7 : Int32))), rv b189, .unset, .unset, .unset, .unset] []
          refine G1 (XS.iload X201.here hx rfl (hb hby at_122) rfl) ?_
          refine G1 (XS.iconst X201.here hx rfl (hb hby at_124)) ?_
          show Gs p e below QQ T201 m 125 #[iv p1, iv p2, iv p3, iv p4, iv p5, iv p6, iv 1, iv 1, iv g2, iv g3, iv ((9 : Int32) + (p6 &&& (7 : Int32))), rv b189, .unset, .unset, .unset, .unset] [(.int 3), (.int 1)]
          refine G1 (XS.icmpYes X201.here hx rfl (pc0 := 125) (pc' := 135) rfl (hb hby at_125) rfl (tlt (by decide)).1 (by decide) (by decide)) ?_
          show Gs p e below QQ T201 m 135 #[iv p1, iv p2, iv p3, iv p4, iv p5, iv p6, iv 1, iv 1, iv g2, iv g3, iv ((9 : Int32) + (p6 &&& (7 : Int32))), rv b189, .unset, .unset, .unset, .unset] []
          refine G1 (XS.iload X201.here hx rfl (hb hby at_135) rfl) ?_
          show Gs p e below QQ T201 m 137 #[iv p1, iv p2, iv p3, iv p4, iv p5, iv p6, iv 1, iv 1, iv g2, iv g3, iv ((9 : Int32) + (p6 &&& (7 : Int32))), rv b189, .unset, .unset, .unset, .unset] [(.int 1)]
          refine G1 (XS.ifYes X201.here hx rfl (pc0 := 137) (pc' := 228) rfl (hb hby at_137) rfl ((if0 _ _).trans (feq (by decide)).2) (by decide) (by decide)) ?_
          show Gs p e below QQ T201 m 228 #[iv p1, iv p2, iv p3, iv p4, iv p5, iv p6, iv 1, iv 1, iv g2, iv g3, iv ((9 : Int32) + (p6 &&& (7 : Int32))), rv b189, .unset, .unset, .unset, .unset] []
          refine G1 (XS.aload X201.here hx rfl (hb hby at_228) rfl rfl) ?_
          refine G1 (XS.iloadN X201.here hx rfl (hb hby at_230) rfl) ?_
          show Goes p e below QQ (T201.setTop (mkF m 231 #[iv p1, iv p2, iv p3, iv p4, iv p5, iv p6, iv 1, iv 1, iv g2, iv g3, iv ((9 : Int32) + (p6 &&& (7 : Int32))), rv b189, .unset, .unset, .unset, .unset] [(.int p2), (.ref b189)]))
          obtain ⟨cq210, kq210, q210a, q210b, q210c⟩ := isOf hZ rfl A189_202
          obtain ⟨_, _, ⟨T210, L210, k210, n210⟩, -, X210, ⟨Lc210, hQ210, l210, y210, z210⟩, st210⟩ := X201.virtualBack hx (y := (⟨"com/example/bindery/bindery/PartIndex", "start", "(I)I"⟩ : MethodName)) (z := (⟨"com/example/bindery/bindery/PartIndex", "start", "(I)I"⟩ : MethodName)) hown (mvT hZ (wI hw 77 rfl)) (mvT hZ (wI hw 67 rfl)) (notFace_of_selects (args := #[]) (mvT hZ (wI hw 69 rfl))) (mvT hZ (wI hw 69 rfl)) (mvT hZ (wI hw 68 rfl)) (by decide) (backOf (W := 0) (rmSt l Z a0 hw [] b189 p2 bd T201.heap n0 (Nat.le_trans Z0 K209.1) slots_a0 shift_a0) hZ (wI hw 70 rfl) (wI hw 2 rfl) (by decide) (by decide)) q210a q210c (g := (mkF m 231 #[iv p1, iv p2, iv p3, iv p4, iv p5, iv p6, iv 1, iv 1, iv g2, iv g3, iv ((9 : Int32) + (p6 &&& (7 : Int32))), rv b189, .unset, .unset, .unset, .unset] [(.int p2), (.ref b189)])) rfl (by rw [hml]; rfl) (Steps.refl _) (argsL := [(.int p2)]) (rest := []) (lenOf pd_1 rfl) rfl (by show 2 * 0 + _ ≤ _; exact Nat.le_of_eq rfl) (hb hby at_231) (fun _ _ => ⟨rfl, rfl, (by decide : 3 + 0 ≤ _), (by decide : 52 + 0 ≤ _)⟩)
          dsimp only [Pt.U, Pt.locs, Pt.cells, Pt.slots] at X210 l210 y210 z210 st210 hQ210
          have l210 := l210.symm; have y210 := y210.symm; have z210 := z210.symm; subst l210 y210 z210
          have X210 : Stand p l e room_1 s m #[(.int p1), (.int p2), (.int p3), (.int p4), (.int p5), (.int p6)] below meth c T210 _ 3 52 := X210
          obtain ⟨rfl, M210, e210⟩ := hQ210
          have N210 := Fr.app N201 M210
          refine Goes.on (fun t k => st210.trans k) ?_
          show Goes p e below QQ (T210.setTop (mkF m 234 #[iv p1, iv p2, iv p3, iv p4, iv p5, iv p6, iv 1, iv 1, iv g2, iv g3, iv ((9 : Int32) + (p6 &&& (7 : Int32))), rv b189, .unset, .unset, .unset, .unset] [(.int (stF p2))]))
          refine G1 (XS.istore X210.here hx rfl (hb hby at_234) rfl (l' := #[iv p1, iv p2, iv p3, iv p4, iv p5, iv p6, iv 1, iv 1, iv g2, iv g3, iv ((9 : Int32) + (p6 &&& (7 : Int32))), rv b189, iv (stF p2), .unset, .unset, .unset]) rfl) ?_
          refine G1 (XS.aload X210.here hx rfl (hb hby at_236) rfl rfl) ?_
          refine G1 (XS.iload X210.here hx rfl (hb hby at_238) rfl) ?_
          show Goes p e below QQ (T210.setTop (mkF m 240 #[iv p1, iv p2, iv p3, iv p4, iv p5, iv p6, iv 1, iv 1, iv g2, iv g3, iv ((9 : Int32) + (p6 &&& (7 : Int32))), rv b189, iv (stF p2), .unset, .unset, .unset] [(.int g2), (.ref b189)]))
          obtain ⟨cq211, kq211, q211a, q211b, q211c⟩ := isOf hZ e210 A189_202
          obtain ⟨_, _, ⟨T211, L211, k211, n211⟩, -, X211, ⟨Lc211, hQ211, l211, y211, z211⟩, st211⟩ := X210.virtualBack hx (y := (⟨"com/example/bindery/bindery/PartIndex", "start", "(I)I"⟩ : MethodName)) (z := (⟨"com/example/bindery/bindery/PartIndex", "start", "(I)I"⟩ : MethodName)) hown (mvT hZ (wI hw 77 rfl)) (mvT hZ (wI hw 67 rfl)) (notFace_of_selects (args := #[]) (mvT hZ (wI hw 69 rfl))) (mvT hZ (wI hw 69 rfl)) (mvT hZ (wI hw 68 rfl)) (by decide) (backOf (W := 0) (rmSt l Z a0 hw [] b189 g2 bd T201.heap n0 (Nat.le_trans Z0 K209.1) slots_a0 shift_a0) hZ (wI hw 70 rfl) (wI hw 2 rfl) (by decide) (by decide)) q211a q211c (g := (mkF m 240 #[iv p1, iv p2, iv p3, iv p4, iv p5, iv p6, iv 1, iv 1, iv g2, iv g3, iv ((9 : Int32) + (p6 &&& (7 : Int32))), rv b189, iv (stF p2), .unset, .unset, .unset] [(.int g2), (.ref b189)])) rfl (by rw [hml]; rfl) (Steps.refl _) (argsL := [(.int g2)]) (rest := []) (lenOf pd_1 rfl) rfl (by show 2 * 0 + _ ≤ _; exact Nat.le_of_eq rfl) (hb hby at_240) (fun _ _ => ⟨rfl, e210, (by decide : 3 + 0 ≤ _), (by decide : 52 + 0 ≤ _)⟩)
          dsimp only [Pt.U, Pt.locs, Pt.cells, Pt.slots] at X211 l211 y211 z211 st211 hQ211
          have l211 := l211.symm; have y211 := y211.symm; have z211 := z211.symm; subst l211 y211 z211
          have X211 : Stand p l e room_1 s m #[(.int p1), (.int p2), (.int p3), (.int p4), (.int p5), (.int p6)] below meth c T211 _ 3 52 := X211
          obtain ⟨rfl, M211, e211⟩ := hQ211
          have N211 := Fr.app N210 M211
          refine Goes.on (fun t k => st211.trans k) ?_
          show Goes p e below QQ (T211.setTop (mkF m 243 #[iv p1, iv p2, iv p3, iv p4, iv p5, iv p6, iv 1, iv 1, iv g2, iv g3, iv ((9 : Int32) + (p6 &&& (7 : Int32))), rv b189, iv (stF p2), .unset, .unset, .unset] [(.int (stF g2))]))
          refine G1 (XS.istore X211.here hx rfl (hb hby at_243) rfl (l' := #[iv p1, iv p2, iv p3, iv p4, iv p5, iv p6, iv 1, iv 1, iv g2, iv g3, iv ((9 : Int32) + (p6 &&& (7 : Int32))), rv b189, iv (stF p2), iv (stF g2), .unset, .unset]) rfl) ?_
          refine G1 (XS.iload X211.here hx rfl (hb hby at_245) rfl) ?_
          refine G1 (XS.iload X211.here hx rfl (hb hby at_247) rfl) ?_
          show Goes p e below QQ (T211.setTop (mkF m 249 #[iv p1, iv p2, iv p3, iv p4, iv p5, iv p6, iv 1, iv 1, iv g2, iv g3, iv ((9 : Int32) + (p6 &&& (7 : Int32))), rv b189, iv (stF p2), iv (stF g2), .unset, .unset] [(.int (stF p2)), (.int (stF g2))]))
          have J212 : ∀ (TJ212 : State) (lJ212 : List Loc), Stand p l e room_1 s m #[(.int p1), (.int p2), (.int p3), (.int p4), (.int p5), (.int p6)] below meth c TJ212 lJ212 3 52 → TJ212.heap = T201.heap → Fr n0 lJ212 → Goes p e below QQ (TJ212.setTop (mkF m 261 #[iv p1, iv p2, iv p3, iv p4, iv p5, iv p6, iv 1, iv 1, iv g2, iv g3, iv ((9 : Int32) + (p6 &&& (7 : Int32))), rv b189, iv (stF p2), iv (if (stF g2) = (stF p2) then (((stF g2) + (1 : Int32)) &&& (31 : Int32)) else (stF g2)), .unset, .unset] [])) := by
            intro TJ212 lJ212 XJ212 eJ212 NJ212
            refine G1 (XS.aload XJ212.here hx rfl (hb hby at_261) rfl rfl) ?_
            refine G1 (XS.iload XJ212.here hx rfl (hb hby at_263) rfl) ?_
            show Goes p e below QQ (TJ212.setTop (mkF m 265 #[iv p1, iv p2, iv p3, iv p4, iv p5, iv p6, iv 1, iv 1, iv g2, iv g3, iv ((9 : Int32) + (p6 &&& (7 : Int32))), rv b189, iv (stF p2), iv (if (stF g2) = (stF p2) then (((stF g2) + (1 : Int32)) &&& (31 : Int32)) else (stF g2)), .unset, .unset] [(.int g3), (.ref b189)]))
            obtain ⟨cq213, kq213, q213a, q213b, q213c⟩ := isOf hZ eJ212 A189_202
            obtain ⟨_, _, ⟨T213, L213, k213, n213⟩, -, X213, ⟨Lc213, hQ213, l213, y213, z213⟩, st213⟩ := XJ212.virtualBack hx (y := (⟨"com/example/bindery/bindery/PartIndex", "start", "(I)I"⟩ : MethodName)) (z := (⟨"com/example/bindery/bindery/PartIndex", "start", "(I)I"⟩ : MethodName)) hown (mvT hZ (wI hw 77 rfl)) (mvT hZ (wI hw 67 rfl)) (notFace_of_selects (args := #[]) (mvT hZ (wI hw 69 rfl))) (mvT hZ (wI hw 69 rfl)) (mvT hZ (wI hw 68 rfl)) (by decide) (backOf (W := 0) (rmSt l Z a0 hw [] b189 g3 bd T201.heap n0 (Nat.le_trans Z0 K209.1) slots_a0 shift_a0) hZ (wI hw 70 rfl) (wI hw 2 rfl) (by decide) (by decide)) q213a q213c (g := (mkF m 265 #[iv p1, iv p2, iv p3, iv p4, iv p5, iv p6, iv 1, iv 1, iv g2, iv g3, iv ((9 : Int32) + (p6 &&& (7 : Int32))), rv b189, iv (stF p2), iv (if (stF g2) = (stF p2) then (((stF g2) + (1 : Int32)) &&& (31 : Int32)) else (stF g2)), .unset, .unset] [(.int g3), (.ref b189)])) rfl (by rw [hml]; rfl) (Steps.refl _) (argsL := [(.int g3)]) (rest := []) (lenOf pd_1 rfl) rfl (by show 2 * 0 + _ ≤ _; exact Nat.le_of_eq rfl) (hb hby at_265) (fun _ _ => ⟨rfl, eJ212, (by decide : 3 + 0 ≤ _), (by decide : 52 + 0 ≤ _)⟩)
            dsimp only [Pt.U, Pt.locs, Pt.cells, Pt.slots] at X213 l213 y213 z213 st213 hQ213
            have l213 := l213.symm; have y213 := y213.symm; have z213 := z213.symm; subst l213 y213 z213
            have X213 : Stand p l e room_1 s m #[(.int p1), (.int p2), (.int p3), (.int p4), (.int p5), (.int p6)] below meth c T213 _ 3 52 := X213
            obtain ⟨rfl, M213, e213⟩ := hQ213
            have N213 := Fr.app NJ212 M213
            refine Goes.on (fun t k => st213.trans k) ?_
            show Goes p e below QQ (T213.setTop (mkF m 268 #[iv p1, iv p2, iv p3, iv p4, iv p5, iv p6, iv 1, iv 1, iv g2, iv g3, iv ((9 : Int32) + (p6 &&& (7 : Int32))), rv b189, iv (stF p2), iv (if (stF g2) = (stF p2) then (((stF g2) + (1 : Int32)) &&& (31 : Int32)) else (stF g2)), .unset, .unset] [(.int (stF g3))]))
            refine G1 (XS.istore X213.here hx rfl (hb hby at_268) rfl (l' := #[iv p1, iv p2, iv p3, iv p4, iv p5, iv p6, iv 1, iv 1, iv g2, iv g3, iv ((9 : Int32) + (p6 &&& (7 : Int32))), rv b189, iv (stF p2), iv (if (stF g2) = (stF p2) then (((stF g2) + (1 : Int32)) &&& (31 : Int32)) else (stF g2)), iv (stF g3), .unset]) rfl) ?_
            refine G1 (XS.iload X213.here hx rfl (hb hby at_270) rfl) ?_
            refine G1 (XS.iload X213.here hx rfl (hb hby at_272) rfl) ?_
            show Goes p e below QQ (T213.setTop (mkF m 274 #[iv p1, iv p2, iv p3, iv p4, iv p5, iv p6, iv 1, iv 1, iv g2, iv g3, iv ((9 : Int32) + (p6 &&& (7 : Int32))), rv b189, iv (stF p2), iv (if (stF g2) = (stF p2) then (((stF g2) + (1 : Int32)) &&& (31 : Int32)) else (stF g2)), iv (stF g3), .unset] [(.int (stF p2)), (.int (stF g3))]))
            have J214 : ∀ (TJ214 : State) (lJ214 : List Loc), Stand p l e room_1 s m #[(.int p1), (.int p2), (.int p3), (.int p4), (.int p5), (.int p6)] below meth c TJ214 lJ214 3 52 → TJ214.heap = T201.heap → Fr n0 lJ214 → Goes p e below QQ (TJ214.setTop (mkF m 316 #[iv p1, iv p2, iv p3, iv p4, iv p5, iv p6, iv 1, iv 1, iv g2, iv g3, iv ((9 : Int32) + (p6 &&& (7 : Int32))), rv b189, iv (stF p2), iv (if (stF g2) = (stF p2) then (((stF g2) + (1 : Int32)) &&& (31 : Int32)) else (stF g2)), iv (if (stF g3) = (stF p2) then (if (((stF g3) + (1 : Int32)) &&& (31 : Int32)) = (stF p2) then (((((stF g3) + (1 : Int32)) &&& (31 : Int32)) + (1 : Int32)) &&& (31 : Int32)) else (if (((stF g3) + (1 : Int32)) &&& (31 : Int32)) = (if (stF g2) = (stF p2) then (((stF g2) + (1 : Int32)) &&& (31 : Int32)) else (stF g2)) then (((((stF g3) + (1 : Int32)) &&& (31 : Int32)) + (1 : Int32)) &&& (31 : Int32)) else (((stF g3) + (1 : Int32)) &&& (31 : Int32)))) else (if (stF g3) = (if (stF g2) = (stF p2) then (((stF g2) + (1 : Int32)) &&& (31 : Int32)) else (stF g2)) then (if (((stF g3) + (1 : Int32)) &&& (31 : Int32)) = (stF p2) then (((((stF g3) + (1 : Int32)) &&& (31 : Int32)) + (1 : Int32)) &&& (31 : Int32)) else (if (((stF g3) + (1 : Int32)) &&& (31 : Int32)) = (if (stF g2) = (stF p2) then (((stF g2) + (1 : Int32)) &&& (31 : Int32)) else (stF g2)) then (((((stF g3) + (1 : Int32)) &&& (31 : Int32)) + (1 : Int32)) &&& (31 : Int32)) else (((stF g3) + (1 : Int32)) &&& (31 : Int32)))) else (stF g3))), .unset] [])) := by
              intro TJ214 lJ214 XJ214 eJ214 NJ214
              rw [own_Q3 p2 g2 g3]
              show Goes p e below QQ (TJ214.setTop (mkF m 316 #[iv p1, iv p2, iv p3, iv p4, iv p5, iv p6, iv 1, iv 1, iv g2, iv g3, iv ((9 : Int32) + (p6 &&& (7 : Int32))), rv b189, iv (stF p2), iv (if (stF g2) = (stF p2) then (((stF g2) + (1 : Int32)) &&& (31 : Int32)) else (stF g2)), iv (P3 p2 g2 g3), .unset] []))
              rw [own_Q2 p2 g2]
              show Goes p e below QQ (TJ214.setTop (mkF m 316 #[iv p1, iv p2, iv p3, iv p4, iv p5, iv p6, iv 1, iv 1, iv g2, iv g3, iv ((9 : Int32) + (p6 &&& (7 : Int32))), rv b189, iv (stF p2), iv (P2 p2 g2), iv (P3 p2 g2 g3), .unset] []))
              refine G1 (XS.iload XJ214.here hx rfl (hb hby at_316) rfl) ?_
              refine G1 (XS.bipush XJ214.here hx rfl (hb hby at_318)) ?_
              show Gs p e below QQ TJ214 m 320 #[iv p1, iv p2, iv p3, iv p4, iv p5, iv p6, iv 1, iv 1, iv g2, iv g3, iv ((9 : Int32) + (p6 &&& (7 : Int32))), rv b189, iv (stF p2), iv (P2 p2 g2), iv (P3 p2 g2 g3), .unset] [(.int 31), (.int p5)]
              refine G1 (XS.iand XJ214.here hx rfl (hb hby at_320) rfl) ?_
              show Gs p e below QQ TJ214 m 321 #[iv p1, iv p2, iv p3, iv p4, iv p5, iv p6, iv 1, iv 1, iv g2, iv g3, iv ((9 : Int32) + (p6 &&& (7 : Int32))), rv b189, iv (stF p2), iv (P2 p2 g2), iv (P3 p2 g2 g3), .unset] [(.int (p5 &&& (31 : Int32)))]
              refine G1 (XS.istore XJ214.here hx rfl (hb hby at_321) rfl (l' := #[iv p1, iv p2, iv p3, iv p4, iv p5, iv p6, iv 1, iv 1, iv g2, iv g3, iv ((9 : Int32) + (p6 &&& (7 : Int32))), rv b189, iv (stF p2), iv (P2 p2 g2), iv (P3 p2 g2 g3), iv (p5 &&& (31 : Int32))]) rfl) ?_
              refine G1 (XS.aload XJ214.here hx rfl (hb hby at_323) rfl rfl) ?_
              refine G1 (XS.iload XJ214.here hx rfl (hb hby at_325) rfl) ?_
              show Goes p e below QQ (TJ214.setTop (mkF m 327 #[iv p1, iv p2, iv p3, iv p4, iv p5, iv p6, iv 1, iv 1, iv g2, iv g3, iv ((9 : Int32) + (p6 &&& (7 : Int32))), rv b189, iv (stF p2), iv (P2 p2 g2), iv (P3 p2 g2 g3), iv (p5 &&& (31 : Int32))] [(.int (p5 &&& (31 : Int32))), (.ref b189)]))
              obtain ⟨cq215, kq215, q215a, q215b, q215c⟩ := isOf hZ eJ214 A189_202
              obtain ⟨_, _, ⟨T215, L215, k215, n215⟩, -, X215, ⟨Lc215, hQ215, l215, y215, z215⟩, st215⟩ := XJ214.virtualBack hx (y := (⟨"com/example/bindery/bindery/PartIndex", "entryAt", "(I)I"⟩ : MethodName)) (z := (⟨"com/example/bindery/bindery/PartIndex", "entryAt", "(I)I"⟩ : MethodName)) hown (mvT hZ (wI hw 24 rfl)) (mvT hZ (wI hw 25 rfl)) (notFace_of_selects (args := #[]) (mvT hZ (wI hw 27 rfl))) (mvT hZ (wI hw 27 rfl)) (mvT hZ (wI hw 26 rfl)) (by decide) (backOf (W := 0) (rmE1 l Z a0 hw [] b189 (p5 &&& (31 : Int32)) bd kd S1 (gi S1 (p5 &&& (31 : Int32))) T201.heap n0 (Nat.le_trans Z0 K209.1) slots_a0 Vda0 (own_m31 p5) (HS1.2 _)) hZ (wI hw 28 rfl) (wI hw 2 rfl) (by decide) (by decide)) q215a q215c (g := (mkF m 327 #[iv p1, iv p2, iv p3, iv p4, iv p5, iv p6, iv 1, iv 1, iv g2, iv g3, iv ((9 : Int32) + (p6 &&& (7 : Int32))), rv b189, iv (stF p2), iv (P2 p2 g2), iv (P3 p2 g2 g3), iv (p5 &&& (31 : Int32))] [(.int (p5 &&& (31 : Int32))), (.ref b189)])) rfl (by rw [hml]; rfl) (Steps.refl _) (argsL := [(.int (p5 &&& (31 : Int32)))]) (rest := []) (lenOf pd_1 rfl) rfl (by show 2 * 0 + _ ≤ _; exact Nat.le_of_eq rfl) (hb hby at_327) (fun _ _ => ⟨rfl, eJ214, (by decide : 3 + 0 ≤ _), (by decide : 52 + 0 ≤ _)⟩)
              dsimp only [Pt.U, Pt.locs, Pt.cells, Pt.slots] at X215 l215 y215 z215 st215 hQ215
              have l215 := l215.symm; have y215 := y215.symm; have z215 := z215.symm; subst l215 y215 z215
              have X215 : Stand p l e room_1 s m #[(.int p1), (.int p2), (.int p3), (.int p4), (.int p5), (.int p6)] below meth c T215 _ 3 52 := X215
              obtain ⟨rfl, M215, e215⟩ := hQ215
              have N215 := Fr.app NJ214 M215
              refine Goes.on (fun t k => st215.trans k) ?_
              show Goes p e below QQ (T215.setTop (mkF m 330 #[iv p1, iv p2, iv p3, iv p4, iv p5, iv p6, iv 1, iv 1, iv g2, iv g3, iv ((9 : Int32) + (p6 &&& (7 : Int32))), rv b189, iv (stF p2), iv (P2 p2 g2), iv (P3 p2 g2 g3), iv (p5 &&& (31 : Int32))] [(.int (entS (gi S1 (p5 &&& (31 : Int32)))))]))
              refine G1 (XS.iload X215.here hx rfl (hb hby at_330) rfl) ?_
              refine G1 (XS.iload X215.here hx rfl (hb hby at_332) rfl) ?_
              refine G1 (XS.iload X215.here hx rfl (hb hby at_334) rfl) ?_
              show Gs p e below QQ T215 m 336 #[iv p1, iv p2, iv p3, iv p4, iv p5, iv p6, iv 1, iv 1, iv g2, iv g3, iv ((9 : Int32) + (p6 &&& (7 : Int32))), rv b189, iv (stF p2), iv (P2 p2 g2), iv (P3 p2 g2 g3), iv (p5 &&& (31 : Int32))] [(.int (stF p2)), (.int 1), (.int (p5 &&& (31 : Int32))), (.int (entS (gi S1 (p5 &&& (31 : Int32)))))]
              refine G1 (XS.iload X215.here hx rfl (hb hby at_336) rfl) ?_
              refine G1 (XS.iload X215.here hx rfl (hb hby at_338) rfl) ?_
              show Goes p e below QQ (T215.setTop (mkF m 340 #[iv p1, iv p2, iv p3, iv p4, iv p5, iv p6, iv 1, iv 1, iv g2, iv g3, iv ((9 : Int32) + (p6 &&& (7 : Int32))), rv b189, iv (stF p2), iv (P2 p2 g2), iv (P3 p2 g2 g3), iv (p5 &&& (31 : Int32))] [(.int (P3 p2 g2 g3)), (.int (P2 p2 g2)), (.int (stF p2)), (.int 1), (.int (p5 &&& (31 : Int32))), (.int (entS (gi S1 (p5 &&& (31 : Int32)))))]))
              obtain ⟨_, _, ⟨T216, L216, k216, n216⟩, -, X216, ⟨Lc216, hQ216, l216, y216, z216⟩, st216⟩ := Jvm.LawKit.callS X215 hx (y := (⟨"com/example/bindery/bindery/PartIndexEntryAtPinLaw", "slot", "(IIIII)I"⟩ : MethodName)) hown (mvT hZ (wI hw 78 rfl)) (mvT hZ (wI hw 79 rfl)) (mvT hZ (wI hw 35 rfl)) (mvT hZ (wI hw 80 rfl)) (by decide) (backOf (W := 1) (rmSl l Z a0 hw [] (p5 &&& (31 : Int32)) (1 : Int32) (stF p2) (P2 p2 g2) (P3 p2 g2 g3) T201.heap n0 (Nat.le_trans Z0 K209.1) ) hZ (wI hw 80 rfl) (wI hw 35 rfl) (by decide) (by decide)) (g := (mkF m 340 #[iv p1, iv p2, iv p3, iv p4, iv p5, iv p6, iv 1, iv 1, iv g2, iv g3, iv ((9 : Int32) + (p6 &&& (7 : Int32))), rv b189, iv (stF p2), iv (P2 p2 g2), iv (P3 p2 g2 g3), iv (p5 &&& (31 : Int32))] [(.int (P3 p2 g2 g3)), (.int (P2 p2 g2)), (.int (stF p2)), (.int 1), (.int (p5 &&& (31 : Int32))), (.int (entS (gi S1 (p5 &&& (31 : Int32)))))])) rfl (by rw [hml]; rfl) (argsL := [(.int (p5 &&& (31 : Int32))), (.int 1), (.int (stF p2)), (.int (P2 p2 g2)), (.int (P3 p2 g2 g3))]) (rest := [(.int (entS (gi S1 (p5 &&& (31 : Int32)))))]) (lenOf pd_4 rfl) rfl (by show 2 * 0 + _ ≤ _; exact Nat.le_of_eq rfl) (hb hby at_340) (fun _ _ => ⟨rfl, e215, (by decide : 3 + 0 ≤ _), (by decide : 52 + 0 ≤ _)⟩)
              dsimp only [Pt.U, Pt.locs, Pt.cells, Pt.slots] at X216 l216 y216 z216 st216 hQ216
              have l216 := l216.symm; have y216 := y216.symm; have z216 := z216.symm; subst l216 y216 z216
              have X216 : Stand p l e room_1 s m #[(.int p1), (.int p2), (.int p3), (.int p4), (.int p5), (.int p6)] below meth c T216 _ 3 52 := X216
              obtain ⟨rfl, M216, e216⟩ := hQ216
              have N216 := Fr.app N215 M216
              refine Goes.on (fun t k => st216 _ k) ?_
              show Goes p e below QQ (T216.setTop (mkF m 343 #[iv p1, iv p2, iv p3, iv p4, iv p5, iv p6, iv 1, iv 1, iv g2, iv g3, iv ((9 : Int32) + (p6 &&& (7 : Int32))), rv b189, iv (stF p2), iv (P2 p2 g2), iv (P3 p2 g2 g3), iv (p5 &&& (31 : Int32))] [(.int (slotF (p5 &&& (31 : Int32)) (1 : Int32) (stF p2) (P2 p2 g2) (P3 p2 g2 g3))), (.int (entS (gi S1 (p5 &&& (31 : Int32)))))]))
              refine G1 (XS.icmpNo X216.here hx rfl (hb hby at_343) rfl (teq (own_slot1 p2 g2 g3 (p5 &&& (31 : Int32)) (own_m31 p5) hS0 hS1)).2) ?_
              show Gs p e below QQ T216 m 346 #[iv p1, iv p2, iv p3, iv p4, iv p5, iv p6, iv 1, iv 1, iv g2, iv g3, iv ((9 : Int32) + (p6 &&& (7 : Int32))), rv b189, iv (stF p2), iv (P2 p2 g2), iv (P3 p2 g2 g3), iv (p5 &&& (31 : Int32))] []
              refine G1 (XS.aload X216.here hx rfl (hb hby at_346) rfl rfl) ?_
              refine G1 (XS.iload X216.here hx rfl (hb hby at_348) rfl) ?_
              show Goes p e below QQ (T216.setTop (mkF m 350 #[iv p1, iv p2, iv p3, iv p4, iv p5, iv p6, iv 1, iv 1, iv g2, iv g3, iv ((9 : Int32) + (p6 &&& (7 : Int32))), rv b189, iv (stF p2), iv (P2 p2 g2), iv (P3 p2 g2 g3), iv (p5 &&& (31 : Int32))] [(.int (stF p2)), (.ref b189)]))
              obtain ⟨cq217, kq217, q217a, q217b, q217c⟩ := isOf hZ e216 A189_202
              obtain ⟨_, _, ⟨T217, L217, k217, n217⟩, -, X217, ⟨Lc217, hQ217, l217, y217, z217⟩, st217⟩ := X216.virtualBack hx (y := (⟨"com/example/bindery/bindery/PartIndex", "entryAt", "(I)I"⟩ : MethodName)) (z := (⟨"com/example/bindery/bindery/PartIndex", "entryAt", "(I)I"⟩ : MethodName)) hown (mvT hZ (wI hw 24 rfl)) (mvT hZ (wI hw 25 rfl)) (notFace_of_selects (args := #[]) (mvT hZ (wI hw 27 rfl))) (mvT hZ (wI hw 27 rfl)) (mvT hZ (wI hw 26 rfl)) (by decide) (backOf (W := 0) (rmE1 l Z a0 hw [] b189 (stF p2) bd kd S1 (gi S1 (stF p2)) T201.heap n0 (Nat.le_trans Z0 K209.1) slots_a0 Vda0 (own_st p2) (HS1.2 _)) hZ (wI hw 28 rfl) (wI hw 2 rfl) (by decide) (by decide)) q217a q217c (g := (mkF m 350 #[iv p1, iv p2, iv p3, iv p4, iv p5, iv p6, iv 1, iv 1, iv g2, iv g3, iv ((9 : Int32) + (p6 &&& (7 : Int32))), rv b189, iv (stF p2), iv (P2 p2 g2), iv (P3 p2 g2 g3), iv (p5 &&& (31 : Int32))] [(.int (stF p2)), (.ref b189)])) rfl (by rw [hml]; rfl) (Steps.refl _) (argsL := [(.int (stF p2))]) (rest := []) (lenOf pd_1 rfl) rfl (by show 2 * 0 + _ ≤ _; exact Nat.le_of_eq rfl) (hb hby at_350) (fun _ _ => ⟨rfl, e216, (by decide : 3 + 0 ≤ _), (by decide : 52 + 0 ≤ _)⟩)
              dsimp only [Pt.U, Pt.locs, Pt.cells, Pt.slots] at X217 l217 y217 z217 st217 hQ217
              have l217 := l217.symm; have y217 := y217.symm; have z217 := z217.symm; subst l217 y217 z217
              have X217 : Stand p l e room_1 s m #[(.int p1), (.int p2), (.int p3), (.int p4), (.int p5), (.int p6)] below meth c T217 _ 3 52 := X217
              obtain ⟨rfl, M217, e217⟩ := hQ217
              have N217 := Fr.app N216 M217
              refine Goes.on (fun t k => st217.trans k) ?_
              show Goes p e below QQ (T217.setTop (mkF m 353 #[iv p1, iv p2, iv p3, iv p4, iv p5, iv p6, iv 1, iv 1, iv g2, iv g3, iv ((9 : Int32) + (p6 &&& (7 : Int32))), rv b189, iv (stF p2), iv (P2 p2 g2), iv (P3 p2 g2 g3), iv (p5 &&& (31 : Int32))] [(.int (entS (gi S1 (stF p2))))]))
              refine G1 (XS.iload X217.here hx rfl (hb hby at_353) rfl) ?_
              refine G1 (XS.iload X217.here hx rfl (hb hby at_355) rfl) ?_
              refine G1 (XS.iload X217.here hx rfl (hb hby at_357) rfl) ?_
              show Gs p e below QQ T217 m 359 #[iv p1, iv p2, iv p3, iv p4, iv p5, iv p6, iv 1, iv 1, iv g2, iv g3, iv ((9 : Int32) + (p6 &&& (7 : Int32))), rv b189, iv (stF p2), iv (P2 p2 g2), iv (P3 p2 g2 g3), iv (p5 &&& (31 : Int32))] [(.int (stF p2)), (.int 1), (.int (stF p2)), (.int (entS (gi S1 (stF p2))))]
              refine G1 (XS.iload X217.here hx rfl (hb hby at_359) rfl) ?_
              refine G1 (XS.iload X217.here hx rfl (hb hby at_361) rfl) ?_
              show Goes p e below QQ (T217.setTop (mkF m 363 #[iv p1, iv p2, iv p3, iv p4, iv p5, iv p6, iv 1, iv 1, iv g2, iv g3, iv ((9 : Int32) + (p6 &&& (7 : Int32))), rv b189, iv (stF p2), iv (P2 p2 g2), iv (P3 p2 g2 g3), iv (p5 &&& (31 : Int32))] [(.int (P3 p2 g2 g3)), (.int (P2 p2 g2)), (.int (stF p2)), (.int 1), (.int (stF p2)), (.int (entS (gi S1 (stF p2))))]))
              obtain ⟨_, _, ⟨T218, L218, k218, n218⟩, -, X218, ⟨Lc218, hQ218, l218, y218, z218⟩, st218⟩ := Jvm.LawKit.callS X217 hx (y := (⟨"com/example/bindery/bindery/PartIndexEntryAtPinLaw", "slot", "(IIIII)I"⟩ : MethodName)) hown (mvT hZ (wI hw 78 rfl)) (mvT hZ (wI hw 79 rfl)) (mvT hZ (wI hw 35 rfl)) (mvT hZ (wI hw 80 rfl)) (by decide) (backOf (W := 1) (rmSl l Z a0 hw [] (stF p2) (1 : Int32) (stF p2) (P2 p2 g2) (P3 p2 g2 g3) T201.heap n0 (Nat.le_trans Z0 K209.1) ) hZ (wI hw 80 rfl) (wI hw 35 rfl) (by decide) (by decide)) (g := (mkF m 363 #[iv p1, iv p2, iv p3, iv p4, iv p5, iv p6, iv 1, iv 1, iv g2, iv g3, iv ((9 : Int32) + (p6 &&& (7 : Int32))), rv b189, iv (stF p2), iv (P2 p2 g2), iv (P3 p2 g2 g3), iv (p5 &&& (31 : Int32))] [(.int (P3 p2 g2 g3)), (.int (P2 p2 g2)), (.int (stF p2)), (.int 1), (.int (stF p2)), (.int (entS (gi S1 (stF p2))))])) rfl (by rw [hml]; rfl) (argsL := [(.int (stF p2)), (.int 1), (.int (stF p2)), (.int (P2 p2 g2)), (.int (P3 p2 g2 g3))]) (rest := [(.int (entS (gi S1 (stF p2))))]) (lenOf pd_4 rfl) rfl (by show 2 * 0 + _ ≤ _; exact Nat.le_of_eq rfl) (hb hby at_363) (fun _ _ => ⟨rfl, e217, (by decide : 3 + 0 ≤ _), (by decide : 52 + 0 ≤ _)⟩)
              dsimp only [Pt.U, Pt.locs, Pt.cells, Pt.slots] at X218 l218 y218 z218 st218 hQ218
              have l218 := l218.symm; have y218 := y218.symm; have z218 := z218.symm; subst l218 y218 z218
              have X218 : Stand p l e room_1 s m #[(.int p1), (.int p2), (.int p3), (.int p4), (.int p5), (.int p6)] below meth c T218 _ 3 52 := X218
              obtain ⟨rfl, M218, e218⟩ := hQ218
              have N218 := Fr.app N217 M218
              refine Goes.on (fun t k => st218 _ k) ?_
              show Goes p e below QQ (T218.setTop (mkF m 366 #[iv p1, iv p2, iv p3, iv p4, iv p5, iv p6, iv 1, iv 1, iv g2, iv g3, iv ((9 : Int32) + (p6 &&& (7 : Int32))), rv b189, iv (stF p2), iv (P2 p2 g2), iv (P3 p2 g2 g3), iv (p5 &&& (31 : Int32))] [(.int (slotF (stF p2) (1 : Int32) (stF p2) (P2 p2 g2) (P3 p2 g2 g3))), (.int (entS (gi S1 (stF p2))))]))
              refine G1 (XS.icmpNo X218.here hx rfl (hb hby at_366) rfl (teq (own_slot1 p2 g2 g3 (stF p2) (own_st p2) hS0 hS1)).2) ?_
              show Gs p e below QQ T218 m 369 #[iv p1, iv p2, iv p3, iv p4, iv p5, iv p6, iv 1, iv 1, iv g2, iv g3, iv ((9 : Int32) + (p6 &&& (7 : Int32))), rv b189, iv (stF p2), iv (P2 p2 g2), iv (P3 p2 g2 g3), iv (p5 &&& (31 : Int32))] []
              refine G1 (XS.aload X218.here hx rfl (hb hby at_369) rfl rfl) ?_
              refine G1 (XS.iload X218.here hx rfl (hb hby at_371) rfl) ?_
              show Goes p e below QQ (T218.setTop (mkF m 373 #[iv p1, iv p2, iv p3, iv p4, iv p5, iv p6, iv 1, iv 1, iv g2, iv g3, iv ((9 : Int32) + (p6 &&& (7 : Int32))), rv b189, iv (stF p2), iv (P2 p2 g2), iv (P3 p2 g2 g3), iv (p5 &&& (31 : Int32))] [(.int (P2 p2 g2)), (.ref b189)]))
              obtain ⟨cq219, kq219, q219a, q219b, q219c⟩ := isOf hZ e218 A189_202
              obtain ⟨_, _, ⟨T219, L219, k219, n219⟩, -, X219, ⟨Lc219, hQ219, l219, y219, z219⟩, st219⟩ := X218.virtualBack hx (y := (⟨"com/example/bindery/bindery/PartIndex", "entryAt", "(I)I"⟩ : MethodName)) (z := (⟨"com/example/bindery/bindery/PartIndex", "entryAt", "(I)I"⟩ : MethodName)) hown (mvT hZ (wI hw 24 rfl)) (mvT hZ (wI hw 25 rfl)) (notFace_of_selects (args := #[]) (mvT hZ (wI hw 27 rfl))) (mvT hZ (wI hw 27 rfl)) (mvT hZ (wI hw 26 rfl)) (by decide) (backOf (W := 0) (rmE1 l Z a0 hw [] b189 (P2 p2 g2) bd kd S1 (gi S1 (P2 p2 g2)) T201.heap n0 (Nat.le_trans Z0 K209.1) slots_a0 Vda0 (own_P2 p2 g2).1 (HS1.2 _)) hZ (wI hw 28 rfl) (wI hw 2 rfl) (by decide) (by decide)) q219a q219c (g := (mkF m 373 #[iv p1, iv p2, iv p3, iv p4, iv p5, iv p6, iv 1, iv 1, iv g2, iv g3, iv ((9 : Int32) + (p6 &&& (7 : Int32))), rv b189, iv (stF p2), iv (P2 p2 g2), iv (P3 p2 g2 g3), iv (p5 &&& (31 : Int32))] [(.int (P2 p2 g2)), (.ref b189)])) rfl (by rw [hml]; rfl) (Steps.refl _) (argsL := [(.int (P2 p2 g2))]) (rest := []) (lenOf pd_1 rfl) rfl (by show 2 * 0 + _ ≤ _; exact Nat.le_of_eq rfl) (hb hby at_373) (fun _ _ => ⟨rfl, e218, (by decide : 3 + 0 ≤ _), (by decide : 52 + 0 ≤ _)⟩)
              dsimp only [Pt.U, Pt.locs, Pt.cells, Pt.slots] at X219 l219 y219 z219 st219 hQ219
              have l219 := l219.symm; have y219 := y219.symm; have z219 := z219.symm; subst l219 y219 z219
              have X219 : Stand p l e room_1 s m #[(.int p1), (.int p2), (.int p3), (.int p4), (.int p5), (.int p6)] below meth c T219 _ 3 52 := X219
              obtain ⟨rfl, M219, e219⟩ := hQ219
              have N219 := Fr.app N218 M219
              refine Goes.on (fun t k => st219.trans k) ?_
              show Goes p e below QQ (T219.setTop (mkF m 376 #[iv p1, iv p2, iv p3, iv p4, iv p5, iv p6, iv 1, iv 1, iv g2, iv g3, iv ((9 : Int32) + (p6 &&& (7 : Int32))), rv b189, iv (stF p2), iv (P2 p2 g2), iv (P3 p2 g2 g3), iv (p5 &&& (31 : Int32))] [(.int (entS (gi S1 (P2 p2 g2))))]))
              refine G1 (XS.iload X219.here hx rfl (hb hby at_376) rfl) ?_
              refine G1 (XS.iload X219.here hx rfl (hb hby at_378) rfl) ?_
              refine G1 (XS.iload X219.here hx rfl (hb hby at_380) rfl) ?_
              show Gs p e below QQ T219 m 382 #[iv p1, iv p2, iv p3, iv p4, iv p5, iv p6, iv 1, iv 1, iv g2, iv g3, iv ((9 : Int32) + (p6 &&& (7 : Int32))), rv b189, iv (stF p2), iv (P2 p2 g2), iv (P3 p2 g2 g3), iv (p5 &&& (31 : Int32))] [(.int (stF p2)), (.int 1), (.int (P2 p2 g2)), (.int (entS (gi S1 (P2 p2 g2))))]
              refine G1 (XS.iload X219.here hx rfl (hb hby at_382) rfl) ?_
              refine G1 (XS.iload X219.here hx rfl (hb hby at_384) rfl) ?_
              show Goes p e below QQ (T219.setTop (mkF m 386 #[iv p1, iv p2, iv p3, iv p4, iv p5, iv p6, iv 1, iv 1, iv g2, iv g3, iv ((9 : Int32) + (p6 &&& (7 : Int32))), rv b189, iv (stF p2), iv (P2 p2 g2), iv (P3 p2 g2 g3), iv (p5 &&& (31 : Int32))] [(.int (P3 p2 g2 g3)), (.int (P2 p2 g2)), (.int (stF p2)), (.int 1), (.int (P2 p2 g2)), (.int (entS (gi S1 (P2 p2 g2))))]))
              obtain ⟨_, _, ⟨T220, L220, k220, n220⟩, -, X220, ⟨Lc220, hQ220, l220, y220, z220⟩, st220⟩ := Jvm.LawKit.callS X219 hx (y := (⟨"com/example/bindery/bindery/PartIndexEntryAtPinLaw", "slot", "(IIIII)I"⟩ : MethodName)) hown (mvT hZ (wI hw 78 rfl)) (mvT hZ (wI hw 79 rfl)) (mvT hZ (wI hw 35 rfl)) (mvT hZ (wI hw 80 rfl)) (by decide) (backOf (W := 1) (rmSl l Z a0 hw [] (P2 p2 g2) (1 : Int32) (stF p2) (P2 p2 g2) (P3 p2 g2 g3) T201.heap n0 (Nat.le_trans Z0 K209.1) ) hZ (wI hw 80 rfl) (wI hw 35 rfl) (by decide) (by decide)) (g := (mkF m 386 #[iv p1, iv p2, iv p3, iv p4, iv p5, iv p6, iv 1, iv 1, iv g2, iv g3, iv ((9 : Int32) + (p6 &&& (7 : Int32))), rv b189, iv (stF p2), iv (P2 p2 g2), iv (P3 p2 g2 g3), iv (p5 &&& (31 : Int32))] [(.int (P3 p2 g2 g3)), (.int (P2 p2 g2)), (.int (stF p2)), (.int 1), (.int (P2 p2 g2)), (.int (entS (gi S1 (P2 p2 g2))))])) rfl (by rw [hml]; rfl) (argsL := [(.int (P2 p2 g2)), (.int 1), (.int (stF p2)), (.int (P2 p2 g2)), (.int (P3 p2 g2 g3))]) (rest := [(.int (entS (gi S1 (P2 p2 g2))))]) (lenOf pd_4 rfl) rfl (by show 2 * 0 + _ ≤ _; exact Nat.le_of_eq rfl) (hb hby at_386) (fun _ _ => ⟨rfl, e219, (by decide : 3 + 0 ≤ _), (by decide : 52 + 0 ≤ _)⟩)
              dsimp only [Pt.U, Pt.locs, Pt.cells, Pt.slots] at X220 l220 y220 z220 st220 hQ220
              have l220 := l220.symm; have y220 := y220.symm; have z220 := z220.symm; subst l220 y220 z220
              have X220 : Stand p l e room_1 s m #[(.int p1), (.int p2), (.int p3), (.int p4), (.int p5), (.int p6)] below meth c T220 _ 3 52 := X220
              obtain ⟨rfl, M220, e220⟩ := hQ220
              have N220 := Fr.app N219 M220
              refine Goes.on (fun t k => st220 _ k) ?_
              show Goes p e below QQ (T220.setTop (mkF m 389 #[iv p1, iv p2, iv p3, iv p4, iv p5, iv p6, iv 1, iv 1, iv g2, iv g3, iv ((9 : Int32) + (p6 &&& (7 : Int32))), rv b189, iv (stF p2), iv (P2 p2 g2), iv (P3 p2 g2 g3), iv (p5 &&& (31 : Int32))] [(.int (slotF (P2 p2 g2) (1 : Int32) (stF p2) (P2 p2 g2) (P3 p2 g2 g3))), (.int (entS (gi S1 (P2 p2 g2))))]))
              refine G1 (XS.icmpNo X220.here hx rfl (hb hby at_389) rfl (teq (own_slot1 p2 g2 g3 (P2 p2 g2) (own_P2 p2 g2).1 hS0 hS1)).2) ?_
              show Gs p e below QQ T220 m 392 #[iv p1, iv p2, iv p3, iv p4, iv p5, iv p6, iv 1, iv 1, iv g2, iv g3, iv ((9 : Int32) + (p6 &&& (7 : Int32))), rv b189, iv (stF p2), iv (P2 p2 g2), iv (P3 p2 g2 g3), iv (p5 &&& (31 : Int32))] []
              refine G1 (XS.aload X220.here hx rfl (hb hby at_392) rfl rfl) ?_
              refine G1 (XS.iload X220.here hx rfl (hb hby at_394) rfl) ?_
              show Goes p e below QQ (T220.setTop (mkF m 396 #[iv p1, iv p2, iv p3, iv p4, iv p5, iv p6, iv 1, iv 1, iv g2, iv g3, iv ((9 : Int32) + (p6 &&& (7 : Int32))), rv b189, iv (stF p2), iv (P2 p2 g2), iv (P3 p2 g2 g3), iv (p5 &&& (31 : Int32))] [(.int (P3 p2 g2 g3)), (.ref b189)]))
              obtain ⟨cq221, kq221, q221a, q221b, q221c⟩ := isOf hZ e220 A189_202
              obtain ⟨_, _, ⟨T221, L221, k221, n221⟩, -, X221, ⟨Lc221, hQ221, l221, y221, z221⟩, st221⟩ := X220.virtualBack hx (y := (⟨"com/example/bindery/bindery/PartIndex", "entryAt", "(I)I"⟩ : MethodName)) (z := (⟨"com/example/bindery/bindery/PartIndex", "entryAt", "(I)I"⟩ : MethodName)) hown (mvT hZ (wI hw 24 rfl)) (mvT hZ (wI hw 25 rfl)) (notFace_of_selects (args := #[]) (mvT hZ (wI hw 27 rfl))) (mvT hZ (wI hw 27 rfl)) (mvT hZ (wI hw 26 rfl)) (by decide) (backOf (W := 0) (rmE1 l Z a0 hw [] b189 (P3 p2 g2 g3) bd kd S1 (gi S1 (P3 p2 g2 g3)) T201.heap n0 (Nat.le_trans Z0 K209.1) slots_a0 Vda0 (own_P3 p2 g2 g3).1 (HS1.2 _)) hZ (wI hw 28 rfl) (wI hw 2 rfl) (by decide) (by decide)) q221a q221c (g := (mkF m 396 #[iv p1, iv p2, iv p3, iv p4, iv p5, iv p6, iv 1, iv 1, iv g2, iv g3, iv ((9 : Int32) + (p6 &&& (7 : Int32))), rv b189, iv (stF p2), iv (P2 p2 g2), iv (P3 p2 g2 g3), iv (p5 &&& (31 : Int32))] [(.int (P3 p2 g2 g3)), (.ref b189)])) rfl (by rw [hml]; rfl) (Steps.refl _) (argsL := [(.int (P3 p2 g2 g3))]) (rest := []) (lenOf pd_1 rfl) rfl (by show 2 * 0 + _ ≤ _; exact Nat.le_of_eq rfl) (hb hby at_396) (fun _ _ => ⟨rfl, e220, (by decide : 3 + 0 ≤ _), (by decide : 52 + 0 ≤ _)⟩)
              dsimp only [Pt.U, Pt.locs, Pt.cells, Pt.slots] at X221 l221 y221 z221 st221 hQ221
              have l221 := l221.symm; have y221 := y221.symm; have z221 := z221.symm; subst l221 y221 z221
              have X221 : Stand p l e room_1 s m #[(.int p1), (.int p2), (.int p3), (.int p4), (.int p5), (.int p6)] below meth c T221 _ 3 52 := X221
              obtain ⟨rfl, M221, e221⟩ := hQ221
              have N221 := Fr.app N220 M221
              refine Goes.on (fun t k => st221.trans k) ?_
              show Goes p e below QQ (T221.setTop (mkF m 399 #[iv p1, iv p2, iv p3, iv p4, iv p5, iv p6, iv 1, iv 1, iv g2, iv g3, iv ((9 : Int32) + (p6 &&& (7 : Int32))), rv b189, iv (stF p2), iv (P2 p2 g2), iv (P3 p2 g2 g3), iv (p5 &&& (31 : Int32))] [(.int (entS (gi S1 (P3 p2 g2 g3))))]))
              refine G1 (XS.iload X221.here hx rfl (hb hby at_399) rfl) ?_
              refine G1 (XS.iload X221.here hx rfl (hb hby at_401) rfl) ?_
              refine G1 (XS.iload X221.here hx rfl (hb hby at_403) rfl) ?_
              show Gs p e below QQ T221 m 405 #[iv p1, iv p2, iv p3, iv p4, iv p5, iv p6, iv 1, iv 1, iv g2, iv g3, iv ((9 : Int32) + (p6 &&& (7 : Int32))), rv b189, iv (stF p2), iv (P2 p2 g2), iv (P3 p2 g2 g3), iv (p5 &&& (31 : Int32))] [(.int (stF p2)), (.int 1), (.int (P3 p2 g2 g3)), (.int (entS (gi S1 (P3 p2 g2 g3))))]
              refine G1 (XS.iload X221.here hx rfl (hb hby at_405) rfl) ?_
              refine G1 (XS.iload X221.here hx rfl (hb hby at_407) rfl) ?_
              show Goes p e below QQ (T221.setTop (mkF m 409 #[iv p1, iv p2, iv p3, iv p4, iv p5, iv p6, iv 1, iv 1, iv g2, iv g3, iv ((9 : Int32) + (p6 &&& (7 : Int32))), rv b189, iv (stF p2), iv (P2 p2 g2), iv (P3 p2 g2 g3), iv (p5 &&& (31 : Int32))] [(.int (P3 p2 g2 g3)), (.int (P2 p2 g2)), (.int (stF p2)), (.int 1), (.int (P3 p2 g2 g3)), (.int (entS (gi S1 (P3 p2 g2 g3))))]))
              obtain ⟨_, _, ⟨T222, L222, k222, n222⟩, -, X222, ⟨Lc222, hQ222, l222, y222, z222⟩, st222⟩ := Jvm.LawKit.callS X221 hx (y := (⟨"com/example/bindery/bindery/PartIndexEntryAtPinLaw", "slot", "(IIIII)I"⟩ : MethodName)) hown (mvT hZ (wI hw 78 rfl)) (mvT hZ (wI hw 79 rfl)) (mvT hZ (wI hw 35 rfl)) (mvT hZ (wI hw 80 rfl)) (by decide) (backOf (W := 1) (rmSl l Z a0 hw [] (P3 p2 g2 g3) (1 : Int32) (stF p2) (P2 p2 g2) (P3 p2 g2 g3) T201.heap n0 (Nat.le_trans Z0 K209.1) ) hZ (wI hw 80 rfl) (wI hw 35 rfl) (by decide) (by decide)) (g := (mkF m 409 #[iv p1, iv p2, iv p3, iv p4, iv p5, iv p6, iv 1, iv 1, iv g2, iv g3, iv ((9 : Int32) + (p6 &&& (7 : Int32))), rv b189, iv (stF p2), iv (P2 p2 g2), iv (P3 p2 g2 g3), iv (p5 &&& (31 : Int32))] [(.int (P3 p2 g2 g3)), (.int (P2 p2 g2)), (.int (stF p2)), (.int 1), (.int (P3 p2 g2 g3)), (.int (entS (gi S1 (P3 p2 g2 g3))))])) rfl (by rw [hml]; rfl) (argsL := [(.int (P3 p2 g2 g3)), (.int 1), (.int (stF p2)), (.int (P2 p2 g2)), (.int (P3 p2 g2 g3))]) (rest := [(.int (entS (gi S1 (P3 p2 g2 g3))))]) (lenOf pd_4 rfl) rfl (by show 2 * 0 + _ ≤ _; exact Nat.le_of_eq rfl) (hb hby at_409) (fun _ _ => ⟨rfl, e221, (by decide : 3 + 0 ≤ _), (by decide : 52 + 0 ≤ _)⟩)
              dsimp only [Pt.U, Pt.locs, Pt.cells, Pt.slots] at X222 l222 y222 z222 st222 hQ222
              have l222 := l222.symm; have y222 := y222.symm; have z222 := z222.symm; subst l222 y222 z222
              have X222 : Stand p l e room_1 s m #[(.int p1), (.int p2), (.int p3), (.int p4), (.int p5), (.int p6)] below meth c T222 _ 3 52 := X222
              obtain ⟨rfl, M222, e222⟩ := hQ222
              have N222 := Fr.app N221 M222
              refine Goes.on (fun t k => st222 _ k) ?_
              show Goes p e below QQ (T222.setTop (mkF m 412 #[iv p1, iv p2, iv p3, iv p4, iv p5, iv p6, iv 1, iv 1, iv g2, iv g3, iv ((9 : Int32) + (p6 &&& (7 : Int32))), rv b189, iv (stF p2), iv (P2 p2 g2), iv (P3 p2 g2 g3), iv (p5 &&& (31 : Int32))] [(.int (slotF (P3 p2 g2 g3) (1 : Int32) (stF p2) (P2 p2 g2) (P3 p2 g2 g3))), (.int (entS (gi S1 (P3 p2 g2 g3))))]))
              refine G1 (XS.icmpNo X222.here hx rfl (hb hby at_412) rfl (teq (own_slot1 p2 g2 g3 (P3 p2 g2 g3) (own_P3 p2 g2 g3).1 hS0 hS1)).2) ?_
              show Gs p e below QQ T222 m 415 #[iv p1, iv p2, iv p3, iv p4, iv p5, iv p6, iv 1, iv 1, iv g2, iv g3, iv ((9 : Int32) + (p6 &&& (7 : Int32))), rv b189, iv (stF p2), iv (P2 p2 g2), iv (P3 p2 g2 g3), iv (p5 &&& (31 : Int32))] []
              refine G1 (XS.iconst X222.here hx rfl (hb hby at_415)) ?_
              refine G1 (XS.goto X222.here hx rfl (pc0 := 416) (pc' := 420) rfl (hb hby at_416) (by decide) (by decide)) ?_
              show Goes p e below QQ (T222.setTop (mkF m 420 #[iv p1, iv p2, iv p3, iv p4, iv p5, iv p6, iv 1, iv 1, iv g2, iv g3, iv ((9 : Int32) + (p6 &&& (7 : Int32))), rv b189, iv (stF p2), iv (P2 p2 g2), iv (P3 p2 g2 g3), iv (p5 &&& (31 : Int32))] [(.int 1)]))
              exact Goes.rN X222 hx (t := .boolean) hret (by simp) hlk (hb hby at_420) hQQ ⟨rfl, N222⟩ (by decide) (by decide)
            show Goes p e below QQ (T213.setTop (mkF m 274 #[iv p1, iv p2, iv p3, iv p4, iv p5, iv p6, iv 1, iv 1, iv g2, iv g3, iv ((9 : Int32) + (p6 &&& (7 : Int32))), rv b189, iv (stF p2), iv (if (stF g2) = (stF p2) then (((stF g2) + (1 : Int32)) &&& (31 : Int32)) else (stF g2)), iv (stF g3), .unset] [(.int (stF p2)), (.int (stF g3))]))
            by_cases hb223 : (stF g3) = (stF p2)
            · refine G1 (XS.icmpYes X213.here hx rfl (pc0 := 274) (pc' := 284) rfl (hb hby at_274) rfl (teq hb223).1 (by decide) (by decide)) ?_
              show Gs p e below QQ T213 m 284 #[iv p1, iv p2, iv p3, iv p4, iv p5, iv p6, iv 1, iv 1, iv g2, iv g3, iv ((9 : Int32) + (p6 &&& (7 : Int32))), rv b189, iv (stF p2), iv (if (stF g2) = (stF p2) then (((stF g2) + (1 : Int32)) &&& (31 : Int32)) else (stF g2)), iv (stF g3), .unset] []
              refine G1 (XS.iload X213.here hx rfl (hb hby at_284) rfl) ?_
              refine G1 (XS.iconst X213.here hx rfl (hb hby at_286)) ?_
              show Gs p e below QQ T213 m 287 #[iv p1, iv p2, iv p3, iv p4, iv p5, iv p6, iv 1, iv 1, iv g2, iv g3, iv ((9 : Int32) + (p6 &&& (7 : Int32))), rv b189, iv (stF p2), iv (if (stF g2) = (stF p2) then (((stF g2) + (1 : Int32)) &&& (31 : Int32)) else (stF g2)), iv (stF g3), .unset] [(.int 1), (.int (stF g3))]
              refine G1 (XS.iadd X213.here hx rfl (hb hby at_287) rfl) ?_
              show Gs p e below QQ T213 m 288 #[iv p1, iv p2, iv p3, iv p4, iv p5, iv p6, iv 1, iv 1, iv g2, iv g3, iv ((9 : Int32) + (p6 &&& (7 : Int32))), rv b189, iv (stF p2), iv (if (stF g2) = (stF p2) then (((stF g2) + (1 : Int32)) &&& (31 : Int32)) else (stF g2)), iv (stF g3), .unset] [(.int ((stF g3) + (1 : Int32)))]
              refine G1 (XS.bipush X213.here hx rfl (hb hby at_288)) ?_
              show Gs p e below QQ T213 m 290 #[iv p1, iv p2, iv p3, iv p4, iv p5, iv p6, iv 1, iv 1, iv g2, iv g3, iv ((9 : Int32) + (p6 &&& (7 : Int32))), rv b189, iv (stF p2), iv (if (stF g2) = (stF p2) then (((stF g2) + (1 : Int32)) &&& (31 : Int32)) else (stF g2)), iv (stF g3), .unset] [(.int 31), (.int ((stF g3) + (1 : Int32)))]
              refine G1 (XS.iand X213.here hx rfl (hb hby at_290) rfl) ?_
              show Gs p e below QQ T213 m 291 #[iv p1, iv p2, iv p3, iv p4, iv p5, iv p6, iv 1, iv 1, iv g2, iv g3, iv ((9 : Int32) + (p6 &&& (7 : Int32))), rv b189, iv (stF p2), iv (if (stF g2) = (stF p2) then (((stF g2) + (1 : Int32)) &&& (31 : Int32)) else (stF g2)), iv (stF g3), .unset] [(.int (((stF g3) + (1 : Int32)) &&& (31 : Int32)))]
              refine G1 (XS.istore X213.here hx rfl (hb hby at_291) rfl (l' := #[iv p1, iv p2, iv p3, iv p4, iv p5, iv p6, iv 1, iv 1, iv g2, iv g3, iv ((9 : Int32) + (p6 &&& (7 : Int32))), rv b189, iv (stF p2), iv (if (stF g2) = (stF p2) then (((stF g2) + (1 : Int32)) &&& (31 : Int32)) else (stF g2)), iv (((stF g3) + (1 : Int32)) &&& (31 : Int32)), .unset]) rfl) ?_
              refine G1 (XS.iload X213.here hx rfl (hb hby at_293) rfl) ?_
              refine G1 (XS.iload X213.here hx rfl (hb hby at_295) rfl) ?_
              show Goes p e below QQ (T213.setTop (mkF m 297 #[iv p1, iv p2, iv p3, iv p4, iv p5, iv p6, iv 1, iv 1, iv g2, iv g3, iv ((9 : Int32) + (p6 &&& (7 : Int32))), rv b189, iv (stF p2), iv (if (stF g2) = (stF p2) then (((stF g2) + (1 : Int32)) &&& (31 : Int32)) else (stF g2)), iv (((stF g3) + (1 : Int32)) &&& (31 : Int32)), .unset] [(.int (stF p2)), (.int (((stF g3) + (1 : Int32)) &&& (31 : Int32)))]))
              by_cases hb224 : (((stF g3) + (1 : Int32)) &&& (31 : Int32)) = (stF p2)
              · refine G1 (XS.icmpYes X213.here hx rfl (pc0 := 297) (pc' := 307) rfl (hb hby at_297) rfl (teq hb224).1 (by decide) (by decide)) ?_
                show Gs p e below QQ T213 m 307 #[iv p1, iv p2, iv p3, iv p4, iv p5, iv p6, iv 1, iv 1, iv g2, iv g3, iv ((9 : Int32) + (p6 &&& (7 : Int32))), rv b189, iv (stF p2), iv (if (stF g2) = (stF p2) then (((stF g2) + (1 : Int32)) &&& (31 : Int32)) else (stF g2)), iv (((stF g3) + (1 : Int32)) &&& (31 : Int32)), .unset] []
                refine G1 (XS.iload X213.here hx rfl (hb hby at_307) rfl) ?_
                refine G1 (XS.iconst X213.here hx rfl (hb hby at_309)) ?_
                show Gs p e below QQ T213 m 310 #[iv p1, iv p2, iv p3, iv p4, iv p5, iv p6, iv 1, iv 1, iv g2, iv g3, iv ((9 : Int32) + (p6 &&& (7 : Int32))), rv b189, iv (stF p2), iv (if (stF g2) = (stF p2) then (((stF g2) + (1 : Int32)) &&& (31 : Int32)) else (stF g2)), iv (((stF g3) + (1 : Int32)) &&& (31 : Int32)), .unset] [(.int 1), (.int (((stF g3) + (1 : Int32)) &&& (31 : Int32)))]
                refine G1 (XS.iadd X213.here hx rfl (hb hby at_310) rfl) ?_
                show Gs p e below QQ T213 m 311 #[iv p1, iv p2, iv p3, iv p4, iv p5, iv p6, iv 1, iv 1, iv g2, iv g3, iv ((9 : Int32) + (p6 &&& (7 : Int32))), rv b189, iv (stF p2), iv (if (stF g2) = (stF p2) then (((stF g2) + (1 : Int32)) &&& (31 : Int32)) else (stF g2)), iv (((stF g3) + (1 : Int32)) &&& (31 : Int32)), .unset] [(.int ((((stF g3) + (1 : Int32)) &&& (31 : Int32)) + (1 : Int32)))]
                refine G1 (XS.bipush X213.here hx rfl (hb hby at_311)) ?_
                show Gs p e below QQ T213 m 313 #[iv p1, iv p2, iv p3, iv p4, iv p5, iv p6, iv 1, iv 1, iv g2, iv g3, iv ((9 : Int32) + (p6 &&& (7 : Int32))), rv b189, iv (stF p2), iv (if (stF g2) = (stF p2) then (((stF g2) + (1 : Int32)) &&& (31 : Int32)) else (stF g2)), iv (((stF g3) + (1 : Int32)) &&& (31 : Int32)), .unset] [(.int 31), (.int ((((stF g3) + (1 : Int32)) &&& (31 : Int32)) + (1 : Int32)))]
                refine G1 (XS.iand X213.here hx rfl (hb hby at_313) rfl) ?_
                show Gs p e below QQ T213 m 314 #[iv p1, iv p2, iv p3, iv p4, iv p5, iv p6, iv 1, iv 1, iv g2, iv g3, iv ((9 : Int32) + (p6 &&& (7 : Int32))), rv b189, iv (stF p2), iv (if (stF g2) = (stF p2) then (((stF g2) + (1 : Int32)) &&& (31 : Int32)) else (stF g2)), iv (((stF g3) + (1 : Int32)) &&& (31 : Int32)), .unset] [(.int (((((stF g3) + (1 : Int32)) &&& (31 : Int32)) + (1 : Int32)) &&& (31 : Int32)))]
                refine G1 (XS.istore X213.here hx rfl (hb hby at_314) rfl (l' := #[iv p1, iv p2, iv p3, iv p4, iv p5, iv p6, iv 1, iv 1, iv g2, iv g3, iv ((9 : Int32) + (p6 &&& (7 : Int32))), rv b189, iv (stF p2), iv (if (stF g2) = (stF p2) then (((stF g2) + (1 : Int32)) &&& (31 : Int32)) else (stF g2)), iv (((((stF g3) + (1 : Int32)) &&& (31 : Int32)) + (1 : Int32)) &&& (31 : Int32)), .unset]) rfl) ?_
                show Goes p e below QQ (T213.setTop (mkF m 316 #[iv p1, iv p2, iv p3, iv p4, iv p5, iv p6, iv 1, iv 1, iv g2, iv g3, iv ((9 : Int32) + (p6 &&& (7 : Int32))), rv b189, iv (stF p2), iv (if (stF g2) = (stF p2) then (((stF g2) + (1 : Int32)) &&& (31 : Int32)) else (stF g2)), iv (((((stF g3) + (1 : Int32)) &&& (31 : Int32)) + (1 : Int32)) &&& (31 : Int32)), .unset] []))
                rw [(((if_pos hb223).trans ((if_pos hb224).trans rfl)) : (if (stF g3) = (stF p2) then (if (((stF g3) + (1 : Int32)) &&& (31 : Int32)) = (stF p2) then (((((stF g3) + (1 : Int32)) &&& (31 : Int32)) + (1 : Int32)) &&& (31 : Int32)) else (if (((stF g3) + (1 : Int32)) &&& (31 : Int32)) = (if (stF g2) = (stF p2) then (((stF g2) + (1 : Int32)) &&& (31 : Int32)) else (stF g2)) then (((((stF g3) + (1 : Int32)) &&& (31 : Int32)) + (1 : Int32)) &&& (31 : Int32)) else (((stF g3) + (1 : Int32)) &&& (31 : Int32)))) else (if (stF g3) = (if (stF g2) = (stF p2) then (((stF g2) + (1 : Int32)) &&& (31 : Int32)) else (stF g2)) then (if (((stF g3) + (1 : Int32)) &&& (31 : Int32)) = (stF p2) then (((((stF g3) + (1 : Int32)) &&& (31 : Int32)) + (1 : Int32)) &&& (31 : Int32)) else (if (((stF g3) + (1 : Int32)) &&& (31 : Int32)) = (if (stF g2) = (stF p2) then (((stF g2) + (1 : Int32)) &&& (31 : Int32)) else (stF g2)) then (((((stF g3) + (1 : Int32)) &&& (31 : Int32)) + (1 : Int32)) &&& (31 : Int32)) else (((stF g3) + (1 : Int32)) &&& (31 : Int32)))) else (stF g3))) = (((((stF g3) + (1 : Int32)) &&& (31 : Int32)) + (1 : Int32)) &&& (31 : Int32)))] at J214
                exact J214 _ _ X213 e213 N213
              · refine G1 (XS.icmpNo X213.here hx rfl (hb hby at_297) rfl (feq hb224).1) ?_
                show Gs p e below QQ T213 m 300 #[iv p1, iv p2, iv p3, iv p4, iv p5, iv p6, iv 1, iv 1, iv g2, iv g3, iv ((9 : Int32) + (p6 &&& (7 : Int32))), rv b189, iv (stF p2), iv (if (stF g2) = (stF p2) then (((stF g2) + (1 : Int32)) &&& (31 : Int32)) else (stF g2)), iv (((stF g3) + (1 : Int32)) &&& (31 : Int32)), .unset] []
                refine G1 (XS.iload X213.here hx rfl (hb hby at_300) rfl) ?_
                refine G1 (XS.iload X213.here hx rfl (hb hby at_302) rfl) ?_
                show Goes p e below QQ (T213.setTop (mkF m 304 #[iv p1, iv p2, iv p3, iv p4, iv p5, iv p6, iv 1, iv 1, iv g2, iv g3, iv ((9 : Int32) + (p6 &&& (7 : Int32))), rv b189, iv (stF p2), iv (if (stF g2) = (stF p2) then (((stF g2) + (1 : Int32)) &&& (31 : Int32)) else (stF g2)), iv (((stF g3) + (1 : Int32)) &&& (31 : Int32)), .unset] [(.int (if (stF g2) = (stF p2) then (((stF g2) + (1 : Int32)) &&& (31 : Int32)) else (stF g2))), (.int (((stF g3) + (1 : Int32)) &&& (31 : Int32)))]))
                by_cases hb225 : (((stF g3) + (1 : Int32)) &&& (31 : Int32)) = (if (stF g2) = (stF p2) then (((stF g2) + (1 : Int32)) &&& (31 : Int32)) else (stF g2))
                · refine G1 (XS.icmpNo X213.here hx rfl (hb hby at_304) rfl (teq hb225).2) ?_
                  show Gs p e below QQ T213 m 307 #[iv p1, iv p2, iv p3, iv p4, iv p5, iv p6, iv 1, iv 1, iv g2, iv g3, iv ((9 : Int32) + (p6 &&& (7 : Int32))), rv b189, iv (stF p2), iv (if (stF g2) = (stF p2) then (((stF g2) + (1 : Int32)) &&& (31 : Int32)) else (stF g2)), iv (((stF g3) + (1 : Int32)) &&& (31 : Int32)), .unset] []
                  refine G1 (XS.iload X213.here hx rfl (hb hby at_307) rfl) ?_
                  refine G1 (XS.iconst X213.here hx rfl (hb hby at_309)) ?_
                  show Gs p e below QQ T213 m 310 #[iv p1, iv p2, iv p3, iv p4, iv p5, iv p6, iv 1, iv 1, iv g2, iv g3, iv ((9 : Int32) + (p6 &&& (7 : Int32))), rv b189, iv (stF p2), iv (if (stF g2) = (stF p2) then (((stF g2) + (1 : Int32)) &&& (31 : Int32)) else (stF g2)), iv (((stF g3) + (1 : Int32)) &&& (31 : Int32)), .unset] [(.int 1), (.int (((stF g3) + (1 : Int32)) &&& (31 : Int32)))]
                  refine G1 (XS.iadd X213.here hx rfl (hb hby at_310) rfl) ?_
                  show Gs p e below QQ T213 m 311 #[iv p1, iv p2, iv p3, iv p4, iv p5, iv p6, iv 1, iv 1, iv g2, iv g3, iv ((9 : Int32) + (p6 &&& (7 : Int32))), rv b189, iv (stF p2), iv (if (stF g2) = (stF p2) then (((stF g2) + (1 : Int32)) &&& (31 : Int32)) else (stF g2)), iv (((stF g3) + (1 : Int32)) &&& (31 : Int32)), .unset] [(.int ((((stF g3) + (1 : Int32)) &&& (31 : Int32)) + (1 : Int32)))]
                  refine G1 (XS.bipush X213.here hx rfl (hb hby at_311)) ?_
                  show Gs p e below QQ T213 m 313 #[iv p1, iv p2, iv p3, iv p4, iv p5, iv p6, iv 1, iv 1, iv g2, iv g3, iv ((9 : Int32) + (p6 &&& (7 : Int32))), rv b189, iv (stF p2), iv (if (stF g2) = (stF p2) then (((stF g2) + (1 : Int32)) &&& (31 : Int32)) else (stF g2)), iv (((stF g3) + (1 : Int32)) &&& (31 : Int32)), .unset] [(.int 31), (.int ((((stF g3) + (1 : Int32)) &&& (31 : Int32)) + (1 : Int32)))]
                  refine G1 (XS.iand X213.here hx rfl (hb hby at_313) rfl) ?_
                  show Gs p e below QQ T213 m 314 #[iv p1, iv p2, iv p3, iv p4, iv p5, iv p6, iv 1, iv 1, iv g2, iv g3, iv ((9 : Int32) + (p6 &&& (7 : Int32))), rv b189, iv (stF p2), iv (if (stF g2) = (stF p2) then (((stF g2) + (1 : Int32)) &&& (31 : Int32)) else (stF g2)), iv (((stF g3) + (1 : Int32)) &&& (31 : Int32)), .unset] [(.int (((((stF g3) + (1 : Int32)) &&& (31 : Int32)) + (1 : Int32)) &&& (31 : Int32)))]
                  refine G1 (XS.istore X213.here hx rfl (hb hby at_314) rfl (l' := #[iv p1, iv p2, iv p3, iv p4, iv p5, iv p6, iv 1, iv 1, iv g2, iv g3, iv ((9 : Int32) + (p6 &&& (7 : Int32))), rv b189, iv (stF p2), iv (if (stF g2) = (stF p2) then (((stF g2) + (1 : Int32)) &&& (31 : Int32)) else (stF g2)), iv (((((stF g3) + (1 : Int32)) &&& (31 : Int32)) + (1 : Int32)) &&& (31 : Int32)), .unset]) rfl) ?_
                  show Goes p e below QQ (T213.setTop (mkF m 316 #[iv p1, iv p2, iv p3, iv p4, iv p5, iv p6, iv 1, iv 1, iv g2, iv g3, iv ((9 : Int32) + (p6 &&& (7 : Int32))), rv b189, iv (stF p2), iv (if (stF g2) = (stF p2) then (((stF g2) + (1 : Int32)) &&& (31 : Int32)) else (stF g2)), iv (((((stF g3) + (1 : Int32)) &&& (31 : Int32)) + (1 : Int32)) &&& (31 : Int32)), .unset] []))
                  rw [(((if_pos hb223).trans ((if_neg hb224).trans ((if_pos hb225).trans rfl))) : (if (stF g3) = (stF p2) then (if (((stF g3) + (1 : Int32)) &&& (31 : Int32)) = (stF p2) then (((((stF g3) + (1 : Int32)) &&& (31 : Int32)) + (1 : Int32)) &&& (31 : Int32)) else (if (((stF g3) + (1 : Int32)) &&& (31 : Int32)) = (if (stF g2) = (stF p2) then (((stF g2) + (1 : Int32)) &&& (31 : Int32)) else (stF g2)) then (((((stF g3) + (1 : Int32)) &&& (31 : Int32)) + (1 : Int32)) &&& (31 : Int32)) else (((stF g3) + (1 : Int32)) &&& (31 : Int32)))) else (if (stF g3) = (if (stF g2) = (stF p2) then (((stF g2) + (1 : Int32)) &&& (31 : Int32)) else (stF g2)) then (if (((stF g3) + (1 : Int32)) &&& (31 : Int32)) = (stF p2) then (((((stF g3) + (1 : Int32)) &&& (31 : Int32)) + (1 : Int32)) &&& (31 : Int32)) else (if (((stF g3) + (1 : Int32)) &&& (31 : Int32)) = (if (stF g2) = (stF p2) then (((stF g2) + (1 : Int32)) &&& (31 : Int32)) else (stF g2)) then (((((stF g3) + (1 : Int32)) &&& (31 : Int32)) + (1 : Int32)) &&& (31 : Int32)) else (((stF g3) + (1 : Int32)) &&& (31 : Int32)))) else (stF g3))) = (((((stF g3) + (1 : Int32)) &&& (31 : Int32)) + (1 : Int32)) &&& (31 : Int32)))] at J214
                  exact J214 _ _ X213 e213 N213
                · refine G1 (XS.icmpYes X213.here hx rfl (pc0 := 304) (pc' := 316) rfl (hb hby at_304) rfl (feq hb225).2 (by decide) (by decide)) ?_
                  show Goes p e below QQ (T213.setTop (mkF m 316 #[iv p1, iv p2, iv p3, iv p4, iv p5, iv p6, iv 1, iv 1, iv g2, iv g3, iv ((9 : Int32) + (p6 &&& (7 : Int32))), rv b189, iv (stF p2), iv (if (stF g2) = (stF p2) then (((stF g2) + (1 : Int32)) &&& (31 : Int32)) else (stF g2)), iv (((stF g3) + (1 : Int32)) &&& (31 : Int32)), .unset] []))
                  rw [(((if_pos hb223).trans ((if_neg hb224).trans ((if_neg hb225).trans rfl))) : (if (stF g3) = (stF p2) then (if (((stF g3) + (1 : Int32)) &&& (31 : Int32)) = (stF p2) then (((((stF g3) + (1 : Int32)) &&& (31 : Int32)) + (1 : Int32)) &&& (31 : Int32)) else (if (((stF g3) + (1 : Int32)) &&& (31 : Int32)) = (if (stF g2) = (stF p2) then (((stF g2) + (1 : Int32)) &&& (31 : Int32)) else (stF g2)) then (((((stF g3) + (1 : Int32)) &&& (31 : Int32)) + (1 : Int32)) &&& (31 : Int32)) else (((stF g3) + (1 : Int32)) &&& (31 : Int32)))) else (if (stF g3) = (if (stF g2) = (stF p2) then (((stF g2) + (1 : Int32)) &&& (31 : Int32)) else (stF g2)) then (if (((stF g3) + (1 : Int32)) &&& (31 : Int32)) = (stF p2) then (((((stF g3) + (1 : Int32)) &&& (31 : Int32)) + (1 : Int32)) &&& (31 : Int32)) else (if (((stF g3) + (1 : Int32)) &&& (31 : Int32)) = (if (stF g2) = (stF p2) then (((stF g2) + (1 : Int32)) &&& (31 : Int32)) else (stF g2)) then (((((stF g3) + (1 : Int32)) &&& (31 : Int32)) + (1 : Int32)) &&& (31 : Int32)) else (((stF g3) + (1 : Int32)) &&& (31 : Int32)))) else (stF g3))) = (((stF g3) + (1 : Int32)) &&& (31 : Int32)))] at J214
                  exact J214 _ _ X213 e213 N213
            · refine G1 (XS.icmpNo X213.here hx rfl (hb hby at_274) rfl (feq hb223).1) ?_
              show Gs p e below QQ T213 m 277 #[iv p1, iv p2, iv p3, iv p4, iv p5, iv p6, iv 1, iv 1, iv g2, iv g3, iv ((9 : Int32) + (p6 &&& (7 : Int32))), rv b189, iv (stF p2), iv (if (stF g2) = (stF p2) then (((stF g2) + (1 : Int32)) &&& (31 : Int32)) else (stF g2)), iv (stF g3), .unset] []
              refine G1 (XS.iload X213.here hx rfl (hb hby at_277) rfl) ?_
              refine G1 (XS.iload X213.here hx rfl (hb hby at_279) rfl) ?_
              show Goes p e below QQ (T213.setTop (mkF m 281 #[iv p1, iv p2, iv p3, iv p4, iv p5, iv p6, iv 1, iv 1, iv g2, iv g3, iv ((9 : Int32) + (p6 &&& (7 : Int32))), rv b189, iv (stF p2), iv (if (stF g2) = (stF p2) then (((stF g2) + (1 : Int32)) &&& (31 : Int32)) else (stF g2)), iv (stF g3), .unset] [(.int (if (stF g2) = (stF p2) then (((stF g2) + (1 : Int32)) &&& (31 : Int32)) else (stF g2))), (.int (stF g3))]))
              by_cases hb226 : (stF g3) = (if (stF g2) = (stF p2) then (((stF g2) + (1 : Int32)) &&& (31 : Int32)) else (stF g2))
              · refine G1 (XS.icmpNo X213.here hx rfl (hb hby at_281) rfl (teq hb226).2) ?_
                show Gs p e below QQ T213 m 284 #[iv p1, iv p2, iv p3, iv p4, iv p5, iv p6, iv 1, iv 1, iv g2, iv g3, iv ((9 : Int32) + (p6 &&& (7 : Int32))), rv b189, iv (stF p2), iv (if (stF g2) = (stF p2) then (((stF g2) + (1 : Int32)) &&& (31 : Int32)) else (stF g2)), iv (stF g3), .unset] []
                refine G1 (XS.iload X213.here hx rfl (hb hby at_284) rfl) ?_
                refine G1 (XS.iconst X213.here hx rfl (hb hby at_286)) ?_
                show Gs p e below QQ T213 m 287 #[iv p1, iv p2, iv p3, iv p4, iv p5, iv p6, iv 1, iv 1, iv g2, iv g3, iv ((9 : Int32) + (p6 &&& (7 : Int32))), rv b189, iv (stF p2), iv (if (stF g2) = (stF p2) then (((stF g2) + (1 : Int32)) &&& (31 : Int32)) else (stF g2)), iv (stF g3), .unset] [(.int 1), (.int (stF g3))]
                refine G1 (XS.iadd X213.here hx rfl (hb hby at_287) rfl) ?_
                show Gs p e below QQ T213 m 288 #[iv p1, iv p2, iv p3, iv p4, iv p5, iv p6, iv 1, iv 1, iv g2, iv g3, iv ((9 : Int32) + (p6 &&& (7 : Int32))), rv b189, iv (stF p2), iv (if (stF g2) = (stF p2) then (((stF g2) + (1 : Int32)) &&& (31 : Int32)) else (stF g2)), iv (stF g3), .unset] [(.int ((stF g3) + (1 : Int32)))]
                refine G1 (XS.bipush X213.here hx rfl (hb hby at_288)) ?_
                show Gs p e below QQ T213 m 290 #[iv p1, iv p2, iv p3, iv p4, iv p5, iv p6, iv 1, iv 1, iv g2, iv g3, iv ((9 : Int32) + (p6 &&& (7 : Int32))), rv b189, iv (stF p2), iv (if (stF g2) = (stF p2) then (((stF g2) + (1 : Int32)) &&& (31 : Int32)) else (stF g2)), iv (stF g3), .unset] [(.int 31), (.int ((stF g3) + (1 : Int32)))]
                refine G1 (XS.iand X213.here hx rfl (hb hby at_290) rfl) ?_
                show Gs p e below QQ T213 m 291 #[iv p1, iv p2, iv p3, iv p4, iv p5, iv p6, iv 1, iv 1, iv g2, iv g3, iv ((9 : Int32) + (p6 &&& (7 : Int32))), rv b189, iv (stF p2), iv (if (stF g2) = (stF p2) then (((stF g2) + (1 : Int32)) &&& (31 : Int32)) else (stF g2)), iv (stF g3), .unset] [(.int (((stF g3) + (1 : Int32)) &&& (31 : Int32)))]
                refine G1 (XS.istore X213.here hx rfl (hb hby at_291) rfl (l' := #[iv p1, iv p2, iv p3, iv p4, iv p5, iv p6, iv 1, iv 1, iv g2, iv g3, iv ((9 : Int32) + (p6 &&& (7 : Int32))), rv b189, iv (stF p2), iv (if (stF g2) = (stF p2) then (((stF g2) + (1 : Int32)) &&& (31 : Int32)) else (stF g2)), iv (((stF g3) + (1 : Int32)) &&& (31 : Int32)), .unset]) rfl) ?_
                refine G1 (XS.iload X213.here hx rfl (hb hby at_293) rfl) ?_
                refine G1 (XS.iload X213.here hx rfl (hb hby at_295) rfl) ?_
                show Goes p e below QQ (T213.setTop (mkF m 297 #[iv p1, iv p2, iv p3, iv p4, iv p5, iv p6, iv 1, iv 1, iv g2, iv g3, iv ((9 : Int32) + (p6 &&& (7 : Int32))), rv b189, iv (stF p2), iv (if (stF g2) = (stF p2) then (((stF g2) + (1 : Int32)) &&& (31 : Int32)) else (stF g2)), iv (((stF g3) + (1 : Int32)) &&& (31 : Int32)), .unset] [(.int (stF p2)), (.int (((stF g3) + (1 : Int32)) &&& (31 : Int32)))]))
                by_cases hb227 : (((stF g3) + (1 : Int32)) &&& (31 : Int32)) = (stF p2)
                · refine G1 (XS.icmpYes X213.here hx rfl (pc0 := 297) (pc' := 307) rfl (hb hby at_297) rfl (teq hb227).1 (by decide) (by decide)) ?_
                  show Gs p e below QQ T213 m 307 #[iv p1, iv p2, iv p3, iv p4, iv p5, iv p6, iv 1, iv 1, iv g2, iv g3, iv ((9 : Int32) + (p6 &&& (7 : Int32))), rv b189, iv (stF p2), iv (if (stF g2) = (stF p2) then (((stF g2) + (1 : Int32)) &&& (31 : Int32)) else (stF g2)), iv (((stF g3) + (1 : Int32)) &&& (31 : Int32)), .unset] []
                  refine G1 (XS.iload X213.here hx rfl (hb hby at_307) rfl) ?_
                  refine G1 (XS.iconst X213.here hx rfl (hb hby at_309)) ?_
                  show Gs p e below QQ T213 m 310 #[iv p1, iv p2, iv p3, iv p4, iv p5, iv p6, iv 1, iv 1, iv g2, iv g3, iv ((9 : Int32) + (p6 &&& (7 : Int32))), rv b189, iv (stF p2), iv (if (stF g2) = (stF p2) then (((stF g2) + (1 : Int32)) &&& (31 : Int32)) else (stF g2)), iv (((stF g3) + (1 : Int32)) &&& (31 : Int32)), .unset] [(.int 1), (.int (((stF g3) + (1 : Int32)) &&& (31 : Int32)))]
                  refine G1 (XS.iadd X213.here hx rfl (hb hby at_310) rfl) ?_
                  show Gs p e below QQ T213 m 311 #[iv p1, iv p2, iv p3, iv p4, iv p5, iv p6, iv 1, iv 1, iv g2, iv g3, iv ((9 : Int32) + (p6 &&& (7 : Int32))), rv b189, iv (stF p2), iv (if (stF g2) = (stF p2) then (((stF g2) + (1 : Int32)) &&& (31 : Int32)) else (stF g2)), iv (((stF g3) + (1 : Int32)) &&& (31 : Int32)), .unset] [(.int ((((stF g3) + (1 : Int32)) &&& (31 : Int32)) + (1 : Int32)))]
                  refine G1 (XS.bipush X213.here hx rfl (hb hby at_311)) ?_
                  show Gs p e below QQ T213 m 313 #[iv p1, iv p2, iv p3, iv p4, iv p5, iv p6, iv 1, iv 1, iv g2, iv g3, iv ((9 : Int32) + (p6 &&& (7 : Int32))), rv b189, iv (stF p2), iv (if (stF g2) = (stF p2) then (((stF g2) + (1 : Int32)) &&& (31 : Int32)) else (stF g2)), iv (((stF g3) + (1 : Int32)) &&& (31 : Int32)), .unset] [(.int 31), (.int ((((stF g3) + (1 : Int32)) &&& (31 : Int32)) + (1 : Int32)))]
                  refine G1 (XS.iand X213.here hx rfl (hb hby at_313) rfl) ?_
                  show Gs p e below QQ T213 m 314 #[iv p1, iv p2, iv p3, iv p4, iv p5, iv p6, iv 1, iv 1, iv g2, iv g3, iv ((9 : Int32) + (p6 &&& (7 : Int32))), rv b189, iv (stF p2), iv (if (stF g2) = (stF p2) then (((stF g2) + (1 : Int32)) &&& (31 : Int32)) else (stF g2)), iv (((stF g3) + (1 : Int32)) &&& (31 : Int32)), .unset] [(.int (((((stF g3) + (1 : Int32)) &&& (31 : Int32)) + (1 : Int32)) &&& (31 : Int32)))]
                  refine G1 (XS.istore X213.here hx rfl (hb hby at_314) rfl (l' := #[iv p1, iv p2, iv p3, iv p4, iv p5, iv p6, iv 1, iv 1, iv g2, iv g3, iv ((9 : Int32) + (p6 &&& (7 : Int32))), rv b189, iv (stF p2), iv (if (stF g2) = (stF p2) then (((stF g2) + (1 : Int32)) &&& (31 : Int32)) else (stF g2)), iv (((((stF g3) + (1 : Int32)) &&& (31 : Int32)) + (1 : Int32)) &&& (31 : Int32)), .unset]) rfl) ?_
                  show Goes p e below QQ (T213.setTop (mkF m 316 #[iv p1, iv p2, iv p3, iv p4, iv p5, iv p6, iv 1, iv 1, iv g2, iv g3, iv ((9 : Int32) + (p6 &&& (7 : Int32))), rv b189, iv (stF p2), iv (if (stF g2) = (stF p2) then (((stF g2) + (1 : Int32)) &&& (31 : Int32)) else (stF g2)), iv (((((stF g3) + (1 : Int32)) &&& (31 : Int32)) + (1 : Int32)) &&& (31 : Int32)), .unset] []))
                  rw [(((if_neg hb223).trans ((if_pos hb226).trans ((if_pos hb227).trans rfl))) : (if (stF g3) = (stF p2) then (if (((stF g3) + (1 : Int32)) &&& (31 : Int32)) = (stF p2) then (((((stF g3) + (1 : Int32)) &&& (31 : Int32)) + (1 : Int32)) &&& (31 : Int32)) else (if (((stF g3) + (1 : Int32)) &&& (31 : Int32)) = (if (stF g2) = (stF p2) then (((stF g2) + (1 : Int32)) &&& (31 : Int32)) else (stF g2)) then (((((stF g3) + (1 : Int32)) &&& (31 : Int32)) + (1 : Int32)) &&& (31 : Int32)) else (((stF g3) + (1 : Int32)) &&& (31 : Int32)))) else (if (stF g3) = (if (stF g2) = (stF p2) then (((stF g2) + (1 : Int32)) &&& (31 : Int32)) else (stF g2)) then (if (((stF g3) + (1 : Int32)) &&& (31 : Int32)) = (stF p2) then (((((stF g3) + (1 : Int32)) &&& (31 : Int32)) + (1 : Int32)) &&& (31 : Int32)) else (if (((stF g3) + (1 : Int32)) &&& (31 : Int32)) = (if (stF g2) = (stF p2) then (((stF g2) + (1 : Int32)) &&& (31 : Int32)) else (stF g2)) then (((((stF g3) + (1 : Int32)) &&& (31 : Int32)) + (1 : Int32)) &&& (31 : Int32)) else (((stF g3) + (1 : Int32)) &&& (31 : Int32)))) else (stF g3))) = (((((stF g3) + (1 : Int32)) &&& (31 : Int32)) + (1 : Int32)) &&& (31 : Int32)))] at J214
                  exact J214 _ _ X213 e213 N213
                · refine G1 (XS.icmpNo X213.here hx rfl (hb hby at_297) rfl (feq hb227).1) ?_
                  show Gs p e below QQ T213 m 300 #[iv p1, iv p2, iv p3, iv p4, iv p5, iv p6, iv 1, iv 1, iv g2, iv g3, iv ((9 : Int32) + (p6 &&& (7 : Int32))), rv b189, iv (stF p2), iv (if (stF g2) = (stF p2) then (((stF g2) + (1 : Int32)) &&& (31 : Int32)) else (stF g2)), iv (((stF g3) + (1 : Int32)) &&& (31 : Int32)), .unset] []
                  refine G1 (XS.iload X213.here hx rfl (hb hby at_300) rfl) ?_
                  refine G1 (XS.iload X213.here hx rfl (hb hby at_302) rfl) ?_
                  show Goes p e below QQ (T213.setTop (mkF m 304 #[iv p1, iv p2, iv p3, iv p4, iv p5, iv p6, iv 1, iv 1, iv g2, iv g3, iv ((9 : Int32) + (p6 &&& (7 : Int32))), rv b189, iv (stF p2), iv (if (stF g2) = (stF p2) then (((stF g2) + (1 : Int32)) &&& (31 : Int32)) else (stF g2)), iv (((stF g3) + (1 : Int32)) &&& (31 : Int32)), .unset] [(.int (if (stF g2) = (stF p2) then (((stF g2) + (1 : Int32)) &&& (31 : Int32)) else (stF g2))), (.int (((stF g3) + (1 : Int32)) &&& (31 : Int32)))]))
                  by_cases hb228 : (((stF g3) + (1 : Int32)) &&& (31 : Int32)) = (if (stF g2) = (stF p2) then (((stF g2) + (1 : Int32)) &&& (31 : Int32)) else (stF g2))
                  · refine G1 (XS.icmpNo X213.here hx rfl (hb hby at_304) rfl (teq hb228).2) ?_
                    show Gs p e below QQ T213 m 307 #[iv p1, iv p2, iv p3, iv p4, iv p5, iv p6, iv 1, iv 1, iv g2, iv g3, iv ((9 : Int32) + (p6 &&& (7 : Int32))), rv b189, iv (stF p2), iv (if (stF g2) = (stF p2) then (((stF g2) + (1 : Int32)) &&& (31 : Int32)) else (stF g2)), iv (((stF g3) + (1 : Int32)) &&& (31 : Int32)), .unset] []
                    refine G1 (XS.iload X213.here hx rfl (hb hby at_307) rfl) ?_
                    refine G1 (XS.iconst X213.here hx rfl (hb hby at_309)) ?_
                    show Gs p e below QQ T213 m 310 #[iv p1, iv p2, iv p3, iv p4, iv p5, iv p6, iv 1, iv 1, iv g2, iv g3, iv ((9 : Int32) + (p6 &&& (7 : Int32))), rv b189, iv (stF p2), iv (if (stF g2) = (stF p2) then (((stF g2) + (1 : Int32)) &&& (31 : Int32)) else (stF g2)), iv (((stF g3) + (1 : Int32)) &&& (31 : Int32)), .unset] [(.int 1), (.int (((stF g3) + (1 : Int32)) &&& (31 : Int32)))]
                    refine G1 (XS.iadd X213.here hx rfl (hb hby at_310) rfl) ?_
                    show Gs p e below QQ T213 m 311 #[iv p1, iv p2, iv p3, iv p4, iv p5, iv p6, iv 1, iv 1, iv g2, iv g3, iv ((9 : Int32) + (p6 &&& (7 : Int32))), rv b189, iv (stF p2), iv (if (stF g2) = (stF p2) then (((stF g2) + (1 : Int32)) &&& (31 : Int32)) else (stF g2)), iv (((stF g3) + (1 : Int32)) &&& (31 : Int32)), .unset] [(.int ((((stF g3) + (1 : Int32)) &&& (31 : Int32)) + (1 : Int32)))]
                    refine G1 (XS.bipush X213.here hx rfl (hb hby at_311)) ?_
                    show Gs p e below QQ T213 m 313 #[iv p1, iv p2, iv p3, iv p4, iv p5, iv p6, iv 1, iv 1, iv g2, iv g3, iv ((9 : Int32) + (p6 &&& (7 : Int32))), rv b189, iv (stF p2), iv (if (stF g2) = (stF p2) then (((stF g2) + (1 : Int32)) &&& (31 : Int32)) else (stF g2)), iv (((stF g3) + (1 : Int32)) &&& (31 : Int32)), .unset] [(.int 31), (.int ((((stF g3) + (1 : Int32)) &&& (31 : Int32)) + (1 : Int32)))]
                    refine G1 (XS.iand X213.here hx rfl (hb hby at_313) rfl) ?_
                    show Gs p e below QQ T213 m 314 #[iv p1, iv p2, iv p3, iv p4, iv p5, iv p6, iv 1, iv 1, iv g2, iv g3, iv ((9 : Int32) + (p6 &&& (7 : Int32))), rv b189, iv (stF p2), iv (if (stF g2) = (stF p2) then (((stF g2) + (1 : Int32)) &&& (31 : Int32)) else (stF g2)), iv (((stF g3) + (1 : Int32)) &&& (31 : Int32)), .unset] [(.int (((((stF g3) + (1 : Int32)) &&& (31 : Int32)) + (1 : Int32)) &&& (31 : Int32)))]
                    refine G1 (XS.istore X213.here hx rfl (hb hby at_314) rfl (l' := #[iv p1, iv p2, iv p3, iv p4, iv p5, iv p6, iv 1, iv 1, iv g2, iv g3, iv ((9 : Int32) + (p6 &&& (7 : Int32))), rv b189, iv (stF p2), iv (if (stF g2) = (stF p2) then (((stF g2) + (1 : Int32)) &&& (31 : Int32)) else (stF g2)), iv (((((stF g3) + (1 : Int32)) &&& (31 : Int32)) + (1 : Int32)) &&& (31 : Int32)), .unset]) rfl) ?_
                    show Goes p e below QQ (T213.setTop (mkF m 316 #[iv p1, iv p2, iv p3, iv p4, iv p5, iv p6, iv 1, iv 1, iv g2, iv g3, iv ((9 : Int32) + (p6 &&& (7 : Int32))), rv b189, iv (stF p2), iv (if (stF g2) = (stF p2) then (((stF g2) + (1 : Int32)) &&& (31 : Int32)) else (stF g2)), iv (((((stF g3) + (1 : Int32)) &&& (31 : Int32)) + (1 : Int32)) &&& (31 : Int32)), .unset] []))
                    rw [(((if_neg hb223).trans ((if_pos hb226).trans ((if_neg hb227).trans ((if_pos hb228).trans rfl)))) : (if (stF g3) = (stF p2) then (if (((stF g3) + (1 : Int32)) &&& (31 : Int32)) = (stF p2) then (((((stF g3) + (1 : Int32)) &&& (31 : Int32)) + (1 : Int32)) &&& (31 : Int32)) else (if (((stF g3) + (1 : Int32)) &&& (31 : Int32)) = (if (stF g2) = (stF p2) then (((stF g2) + (1 : Int32)) &&& (31 : Int32)) else (stF g2)) then (((((stF g3) + (1 : Int32)) &&& (31 : Int32)) + (1 : Int32)) &&& (31 : Int32)) else (((stF g3) + (1 : Int32)) &&& (31 : Int32)))) else (if (stF g3) = (if (stF g2) = (stF p2) then (((stF g2) + (1 : Int32)) &&& (31 : Int32)) else (stF g2)) then (if (((stF g3) + (1 : Int32)) &&& (31 : Int32)) = (stF p2) then (((((stF g3) + (1 : Int32)) &&& (31 : Int32)) + (1 : Int32)) &&& (31 : Int32)) else (if (((stF g3) + (1 : Int32)) &&& (31 : Int32)) = (if (stF g2) = (stF p2) then (((stF g2) + (1 : Int32)) &&& (31 : Int32)) else (stF g2)) then (((((stF g3) + (1 : Int32)) &&& (31 : Int32)) + (1 : Int32)) &&& (31 : Int32)) else (((stF g3) + (1 : Int32)) &&& (31 : Int32)))) else (stF g3))) = (((((stF g3) + (1 : Int32)) &&& (31 : Int32)) + (1 : Int32)) &&& (31 : Int32)))] at J214
                    exact J214 _ _ X213 e213 N213
                  · refine G1 (XS.icmpYes X213.here hx rfl (pc0 := 304) (pc' := 316) rfl (hb hby at_304) rfl (feq hb228).2 (by decide) (by decide)) ?_
                    show Goes p e below QQ (T213.setTop (mkF m 316 #[iv p1, iv p2, iv p3, iv p4, iv p5, iv p6, iv 1, iv 1, iv g2, iv g3, iv ((9 : Int32) + (p6 &&& (7 : Int32))), rv b189, iv (stF p2), iv (if (stF g2) = (stF p2) then (((stF g2) + (1 : Int32)) &&& (31 : Int32)) else (stF g2)), iv (((stF g3) + (1 : Int32)) &&& (31 : Int32)), .unset] []))
                    rw [(((if_neg hb223).trans ((if_pos hb226).trans ((if_neg hb227).trans ((if_neg hb228).trans rfl)))) : (if (stF g3) = (stF p2) then (if (((stF g3) + (1 : Int32)) &&& (31 : Int32)) = (stF p2) then (((((stF g3) + (1 : Int32)) &&& (31 : Int32)) + (1 : Int32)) &&& (31 : Int32)) else (if (((stF g3) + (1 : Int32)) &&& (31 : Int32)) = (if (stF g2) = (stF p2) then (((stF g2) + (1 : Int32)) &&& (31 : Int32)) else (stF g2)) then (((((stF g3) + (1 : Int32)) &&& (31 : Int32)) + (1 : Int32)) &&& (31 : Int32)) else (((stF g3) + (1 : Int32)) &&& (31 : Int32)))) else (if (stF g3) = (if (stF g2) = (stF p2) then (((stF g2) + (1 : Int32)) &&& (31 : Int32)) else (stF g2)) then (if (((stF g3) + (1 : Int32)) &&& (31 : Int32)) = (stF p2) then (((((stF g3) + (1 : Int32)) &&& (31 : Int32)) + (1 : Int32)) &&& (31 : Int32)) else (if (((stF g3) + (1 : Int32)) &&& (31 : Int32)) = (if (stF g2) = (stF p2) then (((stF g2) + (1 : Int32)) &&& (31 : Int32)) else (stF g2)) then (((((stF g3) + (1 : Int32)) &&& (31 : Int32)) + (1 : Int32)) &&& (31 : Int32)) else (((stF g3) + (1 : Int32)) &&& (31 : Int32)))) else (stF g3))) = (((stF g3) + (1 : Int32)) &&& (31 : Int32)))] at J214
                    exact J214 _ _ X213 e213 N213
              · refine G1 (XS.icmpYes X213.here hx rfl (pc0 := 281) (pc' := 316) rfl (hb hby at_281) rfl (feq hb226).2 (by decide) (by decide)) ?_
                show Goes p e below QQ (T213.setTop (mkF m 316 #[iv p1, iv p2, iv p3, iv p4, iv p5, iv p6, iv 1, iv 1, iv g2, iv g3, iv ((9 : Int32) + (p6 &&& (7 : Int32))), rv b189, iv (stF p2), iv (if (stF g2) = (stF p2) then (((stF g2) + (1 : Int32)) &&& (31 : Int32)) else (stF g2)), iv (stF g3), .unset] []))
                rw [(((if_neg hb223).trans ((if_neg hb226).trans rfl)) : (if (stF g3) = (stF p2) then (if (((stF g3) + (1 : Int32)) &&& (31 : Int32)) = (stF p2) then (((((stF g3) + (1 : Int32)) &&& (31 : Int32)) + (1 : Int32)) &&& (31 : Int32)) else (if (((stF g3) + (1 : Int32)) &&& (31 : Int32)) = (if (stF g2) = (stF p2) then (((stF g2) + (1 : Int32)) &&& (31 : Int32)) else (stF g2)) then (((((stF g3) + (1 : Int32)) &&& (31 : Int32)) + (1 : Int32)) &&& (31 : Int32)) else (((stF g3) + (1 : Int32)) &&& (31 : Int32)))) else (if (stF g3) = (if (stF g2) = (stF p2) then (((stF g2) + (1 : Int32)) &&& (31 : Int32)) else (stF g2)) then (if (((stF g3) + (1 : Int32)) &&& (31 : Int32)) = (stF p2) then (((((stF g3) + (1 : Int32)) &&& (31 : Int32)) + (1 : Int32)) &&& (31 : Int32)) else (if (((stF g3) + (1 : Int32)) &&& (31 : Int32)) = (if (stF g2) = (stF p2) then (((stF g2) + (1 : Int32)) &&& (31 : Int32)) else (stF g2)) then (((((stF g3) + (1 : Int32)) &&& (31 : Int32)) + (1 : Int32)) &&& (31 : Int32)) else (((stF g3) + (1 : Int32)) &&& (31 : Int32)))) else (stF g3))) = (stF g3))] at J214
                exact J214 _ _ X213 e213 N213
          show Goes p e below QQ (T211.setTop (mkF m 249 #[iv p1, iv p2, iv p3, iv p4, iv p5, iv p6, iv 1, iv 1, iv g2, iv g3, iv ((9 : Int32) + (p6 &&& (7 : Int32))), rv b189, iv (stF p2), iv (stF g2), .unset, .unset] [(.int (stF p2)), (.int (stF g2))]))
          by_cases hb229 : (stF g2) = (stF p2)
          · refine G1 (XS.icmpNo X211.here hx rfl (hb hby at_249) rfl (teq hb229).2) ?_
            show Gs p e below QQ T211 m 252 #[iv p1, iv p2, iv p3, iv p4, iv p5, iv p6, iv 1, iv 1, iv g2, iv g3, iv ((9 : Int32) + (p6 &&& (7 : Int32))), rv b189, iv (stF p2), iv (stF g2), .unset, .unset] []
            refine G1 (XS.iload X211.here hx rfl (hb hby at_252) rfl) ?_
            refine G1 (XS.iconst X211.here hx rfl (hb hby at_254)) ?_
            show Gs p e below QQ T211 m 255 #[iv p1, iv p2, iv p3, iv p4, iv p5, iv p6, iv 1, iv 1, iv g2, iv g3, iv ((9 : Int32) + (p6 &&& (7 : Int32))), rv b189, iv (stF p2), iv (stF g2), .unset, .unset] [(.int 1), (.int (stF g2))]
            refine G1 (XS.iadd X211.here hx rfl (hb hby at_255) rfl) ?_
            show Gs p e below QQ T211 m 256 #[iv p1, iv p2, iv p3, iv p4, iv p5, iv p6, iv 1, iv 1, iv g2, iv g3, iv ((9 : Int32) + (p6 &&& (7 : Int32))), rv b189, iv (stF p2), iv (stF g2), .unset, .unset] [(.int ((stF g2) + (1 : Int32)))]
            refine G1 (XS.bipush X211.here hx rfl (hb hby at_256)) ?_
            show Gs p e below QQ T211 m 258 #[iv p1, iv p2, iv p3, iv p4, iv p5, iv p6, iv 1, iv 1, iv g2, iv g3, iv ((9 : Int32) + (p6 &&& (7 : Int32))), rv b189, iv (stF p2), iv (stF g2), .unset, .unset] [(.int 31), (.int ((stF g2) + (1 : Int32)))]
            refine G1 (XS.iand X211.here hx rfl (hb hby at_258) rfl) ?_
            show Gs p e below QQ T211 m 259 #[iv p1, iv p2, iv p3, iv p4, iv p5, iv p6, iv 1, iv 1, iv g2, iv g3, iv ((9 : Int32) + (p6 &&& (7 : Int32))), rv b189, iv (stF p2), iv (stF g2), .unset, .unset] [(.int (((stF g2) + (1 : Int32)) &&& (31 : Int32)))]
            refine G1 (XS.istore X211.here hx rfl (hb hby at_259) rfl (l' := #[iv p1, iv p2, iv p3, iv p4, iv p5, iv p6, iv 1, iv 1, iv g2, iv g3, iv ((9 : Int32) + (p6 &&& (7 : Int32))), rv b189, iv (stF p2), iv (((stF g2) + (1 : Int32)) &&& (31 : Int32)), .unset, .unset]) rfl) ?_
            show Goes p e below QQ (T211.setTop (mkF m 261 #[iv p1, iv p2, iv p3, iv p4, iv p5, iv p6, iv 1, iv 1, iv g2, iv g3, iv ((9 : Int32) + (p6 &&& (7 : Int32))), rv b189, iv (stF p2), iv (((stF g2) + (1 : Int32)) &&& (31 : Int32)), .unset, .unset] []))
            rw [(((if_pos hb229).trans rfl) : (if (stF g2) = (stF p2) then (((stF g2) + (1 : Int32)) &&& (31 : Int32)) else (stF g2)) = (((stF g2) + (1 : Int32)) &&& (31 : Int32)))] at J212
            exact J212 _ _ X211 e211 N211
          · refine G1 (XS.icmpYes X211.here hx rfl (pc0 := 249) (pc' := 261) rfl (hb hby at_249) rfl (feq hb229).2 (by decide) (by decide)) ?_
            show Goes p e below QQ (T211.setTop (mkF m 261 #[iv p1, iv p2, iv p3, iv p4, iv p5, iv p6, iv 1, iv 1, iv g2, iv g3, iv ((9 : Int32) + (p6 &&& (7 : Int32))), rv b189, iv (stF p2), iv (stF g2), .unset, .unset] []))
            rw [(((if_neg hb229).trans rfl) : (if (stF g2) = (stF p2) then (((stF g2) + (1 : Int32)) &&& (31 : Int32)) else (stF g2)) = (stF g2))] at J212
            exact J212 _ _ X211 e211 N211
        show Goes p e below QQ (TJ187.setTop (mkF m 38 #[iv p1, iv p2, iv p3, iv p4, iv p5, iv p6, iv 1, iv 1, iv (if (p1 &&& (8 : Int32)) = (0 : Int32) then p3 else p2), .unset, .unset, .unset, .unset, .unset, .unset, .unset] [(.int (p1 &&& (16 : Int32)))]))
        by_cases hb230 : (p1 &&& (16 : Int32)) = (0 : Int32)
        · refine G1 (XS.ifYes XJ187.here hx rfl (pc0 := 38) (pc' := 45) rfl (hb hby at_38) rfl ((if0 _ _).trans (teq hb230).1) (by decide) (by decide)) ?_
          show Gs p e below QQ TJ187 m 45 #[iv p1, iv p2, iv p3, iv p4, iv p5, iv p6, iv 1, iv 1, iv (if (p1 &&& (8 : Int32)) = (0 : Int32) then p3 else p2), .unset, .unset, .unset, .unset, .unset, .unset, .unset] []
          refine G1 (XS.iloadN XJ187.here hx rfl (hb hby at_45) rfl) ?_
          refine G1 (XS.bipush XJ187.here hx rfl (hb hby at_46)) ?_
          show Gs p e below QQ TJ187 m 48 #[iv p1, iv p2, iv p3, iv p4, iv p5, iv p6, iv 1, iv 1, iv (if (p1 &&& (8 : Int32)) = (0 : Int32) then p3 else p2), .unset, .unset, .unset, .unset, .unset, .unset, .unset] [(.int 32), (.int p1)]
          refine G1 (XS.iand XJ187.here hx rfl (hb hby at_48) rfl) ?_
          show Goes p e below QQ (TJ187.setTop (mkF m 49 #[iv p1, iv p2, iv p3, iv p4, iv p5, iv p6, iv 1, iv 1, iv (if (p1 &&& (8 : Int32)) = (0 : Int32) then p3 else p2), .unset, .unset, .unset, .unset, .unset, .unset, .unset] [(.int (p1 &&& (32 : Int32)))]))
          by_cases hb231 : (p1 &&& (32 : Int32)) = (0 : Int32)
          · refine G1 (XS.ifYes XJ187.here hx rfl (pc0 := 49) (pc' := 57) rfl (hb hby at_49) rfl ((if0 _ _).trans (teq hb231).1) (by decide) (by decide)) ?_
            show Gs p e below QQ TJ187 m 57 #[iv p1, iv p2, iv p3, iv p4, iv p5, iv p6, iv 1, iv 1, iv (if (p1 &&& (8 : Int32)) = (0 : Int32) then p3 else p2), .unset, .unset, .unset, .unset, .unset, .unset, .unset] []
            refine G1 (XS.iloadN XJ187.here hx rfl (hb hby at_57) rfl) ?_
            show Goes p e below QQ (TJ187.setTop (mkF m 58 #[iv p1, iv p2, iv p3, iv p4, iv p5, iv p6, iv 1, iv 1, iv (if (p1 &&& (8 : Int32)) = (0 : Int32) then p3 else p2), .unset, .unset, .unset, .unset, .unset, .unset, .unset] [(.int p4)]))
            rw [(((if_pos hb230).trans ((if_pos hb231).trans rfl)) : (if (p1 &&& (16 : Int32)) = (0 : Int32) then (if (p1 &&& (32 : Int32)) = (0 : Int32) then p4 else (if (p1 &&& (8 : Int32)) = (0 : Int32) then p3 else p2)) else p2) = p4)] at J188
            exact J188 _ _ XJ187 eJ187 NJ187
          · refine G1 (XS.ifNo XJ187.here hx rfl (hb hby at_49) rfl ((if0 _ _).trans (feq hb231).1)) ?_
            show Gs p e below QQ TJ187 m 52 #[iv p1, iv p2, iv p3, iv p4, iv p5, iv p6, iv 1, iv 1, iv (if (p1 &&& (8 : Int32)) = (0 : Int32) then p3 else p2), .unset, .unset, .unset, .unset, .unset, .unset, .unset] []
            refine G1 (XS.iload XJ187.here hx rfl (hb hby at_52) rfl) ?_
            refine G1 (XS.goto XJ187.here hx rfl (pc0 := 54) (pc' := 58) rfl (hb hby at_54) (by decide) (by decide)) ?_
            show Goes p e below QQ (TJ187.setTop (mkF m 58 #[iv p1, iv p2, iv p3, iv p4, iv p5, iv p6, iv 1, iv 1, iv (if (p1 &&& (8 : Int32)) = (0 : Int32) then p3 else p2), .unset, .unset, .unset, .unset, .unset, .unset, .unset] [(.int (if (p1 &&& (8 : Int32)) = (0 : Int32) then p3 else p2))]))
            rw [(((if_pos hb230).trans ((if_neg hb231).trans rfl)) : (if (p1 &&& (16 : Int32)) = (0 : Int32) then (if (p1 &&& (32 : Int32)) = (0 : Int32) then p4 else (if (p1 &&& (8 : Int32)) = (0 : Int32) then p3 else p2)) else p2) = (if (p1 &&& (8 : Int32)) = (0 : Int32) then p3 else p2))] at J188
            exact J188 _ _ XJ187 eJ187 NJ187
        · refine G1 (XS.ifNo XJ187.here hx rfl (hb hby at_38) rfl ((if0 _ _).trans (feq hb230).1)) ?_
          show Gs p e below QQ TJ187 m 41 #[iv p1, iv p2, iv p3, iv p4, iv p5, iv p6, iv 1, iv 1, iv (if (p1 &&& (8 : Int32)) = (0 : Int32) then p3 else p2), .unset, .unset, .unset, .unset, .unset, .unset, .unset] []
          refine G1 (XS.iloadN XJ187.here hx rfl (hb hby at_41) rfl) ?_
          refine G1 (XS.goto XJ187.here hx rfl (pc0 := 42) (pc' := 58) rfl (hb hby at_42) (by decide) (by decide)) ?_
          show Goes p e below QQ (TJ187.setTop (mkF m 58 #[iv p1, iv p2, iv p3, iv p4, iv p5, iv p6, iv 1, iv 1, iv (if (p1 &&& (8 : Int32)) = (0 : Int32) then p3 else p2), .unset, .unset, .unset, .unset, .unset, .unset, .unset] [(.int p2)]))
          rw [(((if_neg hb230).trans rfl) : (if (p1 &&& (16 : Int32)) = (0 : Int32) then (if (p1 &&& (32 : Int32)) = (0 : Int32) then p4 else (if (p1 &&& (8 : Int32)) = (0 : Int32) then p3 else p2)) else p2) = p2)] at J188
          exact J188 _ _ XJ187 eJ187 NJ187
      show Goes p e below QQ (s₁.setTop (mkF m 24 #[iv p1, iv p2, iv p3, iv p4, iv p5, iv p6, iv 1, iv 1, .unset, .unset, .unset, .unset, .unset, .unset, .unset, .unset] [(.int (p1 &&& (8 : Int32)))]))
      by_cases hb232 : (p1 &&& (8 : Int32)) = (0 : Int32)
      · refine G1 (XS.ifYes X0.here hx rfl (pc0 := 24) (pc' := 31) rfl (hb hby at_24) rfl ((if0 _ _).trans (teq hb232).1) (by decide) (by decide)) ?_
        show Gs p e below QQ s₁ m 31 #[iv p1, iv p2, iv p3, iv p4, iv p5, iv p6, iv 1, iv 1, .unset, .unset, .unset, .unset, .unset, .unset, .unset, .unset] []
        refine G1 (XS.iloadN X0.here hx rfl (hb hby at_31) rfl) ?_
        show Goes p e below QQ (s₁.setTop (mkF m 32 #[iv p1, iv p2, iv p3, iv p4, iv p5, iv p6, iv 1, iv 1, .unset, .unset, .unset, .unset, .unset, .unset, .unset, .unset] [(.int p3)]))
        rw [(((if_pos hb232).trans rfl) : (if (p1 &&& (8 : Int32)) = (0 : Int32) then p3 else p2) = p3)] at J187
        exact J187 _ _ X0 e0 N0
      · refine G1 (XS.ifNo X0.here hx rfl (hb hby at_24) rfl ((if0 _ _).trans (feq hb232).1)) ?_
        show Gs p e below QQ s₁ m 27 #[iv p1, iv p2, iv p3, iv p4, iv p5, iv p6, iv 1, iv 1, .unset, .unset, .unset, .unset, .unset, .unset, .unset, .unset] []
        refine G1 (XS.iloadN X0.here hx rfl (hb hby at_27) rfl) ?_
        refine G1 (XS.goto X0.here hx rfl (pc0 := 28) (pc' := 32) rfl (hb hby at_28) (by decide) (by decide)) ?_
        show Goes p e below QQ (s₁.setTop (mkF m 32 #[iv p1, iv p2, iv p3, iv p4, iv p5, iv p6, iv 1, iv 1, .unset, .unset, .unset, .unset, .unset, .unset, .unset, .unset] [(.int p2)]))
        rw [(((if_neg hb232).trans rfl) : (if (p1 &&& (8 : Int32)) = (0 : Int32) then p3 else p2) = p2)] at J187
        exact J187 _ _ X0 e0 N0
    · rw [hk]
      show Goes p e below QQ (s₁.setTop (mkF m 20 #[iv p1, iv p2, iv p3, iv p4, iv p5, iv p6, iv 1, iv 2, .unset, .unset, .unset, .unset, .unset, .unset, .unset, .unset] []))
      refine G1 (XS.iloadN X0.here hx rfl (hb hby at_20) rfl) ?_
      refine G1 (XS.bipush X0.here hx rfl (hb hby at_21)) ?_
      show Gs p e below QQ s₁ m 23 #[iv p1, iv p2, iv p3, iv p4, iv p5, iv p6, iv 1, iv 2, .unset, .unset, .unset, .unset, .unset, .unset, .unset, .unset] [(.int 8), (.int p1)]
      refine G1 (XS.iand X0.here hx rfl (hb hby at_23) rfl) ?_
      show Goes p e below QQ (s₁.setTop (mkF m 24 #[iv p1, iv p2, iv p3, iv p4, iv p5, iv p6, iv 1, iv 2, .unset, .unset, .unset, .unset, .unset, .unset, .unset, .unset] [(.int (p1 &&& (8 : Int32)))]))
      have J233 : ∀ (TJ233 : State) (lJ233 : List Loc), Stand p l e room_1 s m #[(.int p1), (.int p2), (.int p3), (.int p4), (.int p5), (.int p6)] below meth c TJ233 lJ233 0 0 → TJ233.heap = h0 → Fr n0 lJ233 → Goes p e below QQ (TJ233.setTop (mkF m 32 #[iv p1, iv p2, iv p3, iv p4, iv p5, iv p6, iv 1, iv 2, .unset, .unset, .unset, .unset, .unset, .unset, .unset, .unset] [(.int (if (p1 &&& (8 : Int32)) = (0 : Int32) then p3 else p2))])) := by
        intro TJ233 lJ233 XJ233 eJ233 NJ233
        refine G1 (XS.istore XJ233.here hx rfl (hb hby at_32) rfl (l' := #[iv p1, iv p2, iv p3, iv p4, iv p5, iv p6, iv 1, iv 2, iv (if (p1 &&& (8 : Int32)) = (0 : Int32) then p3 else p2), .unset, .unset, .unset, .unset, .unset, .unset, .unset]) rfl) ?_
        refine G1 (XS.iloadN XJ233.here hx rfl (hb hby at_34) rfl) ?_
        refine G1 (XS.bipush XJ233.here hx rfl (hb hby at_35)) ?_
        show Gs p e below QQ TJ233 m 37 #[iv p1, iv p2, iv p3, iv p4, iv p5, iv p6, iv 1, iv 2, iv (if (p1 &&& (8 : Int32)) = (0 : Int32) then p3 else p2), .unset, .unset, .unset, .unset, .unset, .unset, .unset] [(.int 16), (.int p1)]
        refine G1 (XS.iand XJ233.here hx rfl (hb hby at_37) rfl) ?_
        show Goes p e below QQ (TJ233.setTop (mkF m 38 #[iv p1, iv p2, iv p3, iv p4, iv p5, iv p6, iv 1, iv 2, iv (if (p1 &&& (8 : Int32)) = (0 : Int32) then p3 else p2), .unset, .unset, .unset, .unset, .unset, .unset, .unset] [(.int (p1 &&& (16 : Int32)))]))
        have J234 : ∀ (TJ234 : State) (lJ234 : List Loc), Stand p l e room_1 s m #[(.int p1), (.int p2), (.int p3), (.int p4), (.int p5), (.int p6)] below meth c TJ234 lJ234 0 0 → TJ234.heap = h0 → Fr n0 lJ234 → Goes p e below QQ (TJ234.setTop (mkF m 58 #[iv p1, iv p2, iv p3, iv p4, iv p5, iv p6, iv 1, iv 2, iv (if (p1 &&& (8 : Int32)) = (0 : Int32) then p3 else p2), .unset, .unset, .unset, .unset, .unset, .unset, .unset] [(.int (if (p1 &&& (16 : Int32)) = (0 : Int32) then (if (p1 &&& (32 : Int32)) = (0 : Int32) then p4 else (if (p1 &&& (8 : Int32)) = (0 : Int32) then p3 else p2)) else p2))])) := by
          intro TJ234 lJ234 XJ234 eJ234 NJ234
          refine G1 (XS.istore XJ234.here hx rfl (hb hby at_58) rfl (l' := #[iv p1, iv p2, iv p3, iv p4, iv p5, iv p6, iv 1, iv 2, iv (if (p1 &&& (8 : Int32)) = (0 : Int32) then p3 else p2), iv (if (p1 &&& (16 : Int32)) = (0 : Int32) then (if (p1 &&& (32 : Int32)) = (0 : Int32) then p4 else (if (p1 &&& (8 : Int32)) = (0 : Int32) then p3 else p2)) else p2), .unset, .unset, .unset, .unset, .unset, .unset]) rfl) ?_
          show Goes p e below QQ (TJ234.setTop (mkF m 60 #[iv p1, iv p2, iv p3, iv p4, iv p5, iv p6, iv 1, iv 2, iv (if (p1 &&& (8 : Int32)) = (0 : Int32) then p3 else p2), iv (if (p1 &&& (16 : Int32)) = (0 : Int32) then (if (p1 &&& (32 : Int32)) = (0 : Int32) then p4 else (if (p1 &&& (8 : Int32)) = (0 : Int32) then p3 else p2)) else p2), .unset, .unset, .unset, .unset, .unset, .unset] []))
          generalize (if (p1 &&& (16 : Int32)) = (0 : Int32) then (if (p1 &&& (32 : Int32)) = (0 : Int32) then p4 else (if (p1 &&& (8 : Int32)) = (0 : Int32) then p3 else p2)) else p2) = g3
          generalize (if (p1 &&& (8 : Int32)) = (0 : Int32) then p3 else p2) = g2
          show Goes p e below QQ (TJ234.setTop (mkF m 60 #[iv p1, iv p2, iv p3, iv p4, iv p5, iv p6, iv 1, iv 2, iv g2, iv g3, .unset, .unset, .unset, .unset, .unset, .unset] []))
          refine G1 (XS.iload XJ234.here hx rfl (hb hby at_60) rfl) ?_
          show Gs p e below QQ TJ234 m 62 #[iv p1, iv p2, iv p3, iv p4, iv p5, iv p6, iv 1, iv 2, iv g2, iv g3, .unset, .unset, .unset, .unset, .unset, .unset] [(.int 1)]
          refine G1 (XS.ifNo XJ234.here hx rfl (hb hby at_62) rfl ((if0 _ _).trans (feq (by decide)).1)) ?_
          show Gs p e below QQ TJ234 m 65 #[iv p1, iv p2, iv p3, iv p4, iv p5, iv p6, iv 1, iv 2, iv g2, iv g3, .unset, .unset, .unset, .unset, .unset, .unset] []
          refine G1 (XS.bipush XJ234.here hx rfl (hb hby at_65)) ?_
          refine G1 (XS.iload XJ234.here hx rfl (hb hby at_67) rfl) ?_
          refine G1 (XS.bipush XJ234.here hx rfl (hb hby at_69)) ?_
          show Gs p e below QQ TJ234 m 71 #[iv p1, iv p2, iv p3, iv p4, iv p5, iv p6, iv 1, iv 2, iv g2, iv g3, .unset, .unset, .unset, .unset, .unset, .unset] [(.int 7), (.int p6), (.int 9)]
          refine G1 (XS.iand XJ234.here hx rfl (hb hby at_71) rfl) ?_
          show Gs p e below QQ TJ234 m 72 #[iv p1, iv p2, iv p3, iv p4, iv p5, iv p6, iv 1, iv 2, iv g2, iv g3, .unset, .unset, .unset, .unset, .unset, .unset] [(.int (p6 &&& (7 : Int32))), (.int 9)]
          refine G1 (XS.iadd XJ234.here hx rfl (hb hby at_72) rfl) ?_
          show Gs p e below QQ TJ234 m 73 #[iv p1, iv p2, iv p3, iv p4, iv p5, iv p6, iv 1, iv 2, iv g2, iv g3, .unset, .unset, .unset, .unset, .unset, .unset] [(.int ((9 : Int32) + (p6 &&& (7 : Int32))))]
          refine G1 (XS.goto XJ234.here hx rfl (pc0 := 73) (pc' := 84) rfl (hb hby at_73) (by decide) (by decide)) ?_
          refine G1 (XS.istore XJ234.here hx rfl (hb hby at_84) rfl (l' := #[iv p1, iv p2, iv p3, iv p4, iv p5, iv p6, iv 1, iv 2, iv g2, iv g3, iv ((9 : Int32) + (p6 &&& (7 : Int32))), .unset, .unset, .unset, .unset, .unset]) rfl) ?_
          show Goes p e below QQ (TJ234.setTop (mkF m 86 #[iv p1, iv p2, iv p3, iv p4, iv p5, iv p6, iv 1, iv 2, iv g2, iv g3, iv ((9 : Int32) + (p6 &&& (7 : Int32))), .unset, .unset, .unset, .unset, .unset] []))
          obtain ⟨T235, h235, X235, e235, E235, A235, D235, -, st235⟩ := newO XJ234 hx hZ hown (wI hw 0 rfl) (wI hw 1 rfl) (wI hw 2 rfl) eJ234 (g := (mkF m 86 #[iv p1, iv p2, iv p3, iv p4, iv p5, iv p6, iv 1, iv 2, iv g2, iv g3, iv ((9 : Int32) + (p6 &&& (7 : Int32))), .unset, .unset, .unset, .unset, .unset] [])) rfl (hb hby at_86) (by decide) (by decide)
          obtain ⟨b235, g235⟩ : ∃ z, z = h0.size := ⟨_, rfl⟩
          rw [← g235] at A235 D235 st235
          have sz_b235 : h0.size ≤ b235 := Nat.le_trans K0.1 (Nat.le_of_eq g235.symm)
          have g_b235 : n0 ≤ b235 := Nat.le_trans Z0 sz_b235
          have K235 := K0.ext E235
          have X235 : Stand p l e room_1 s m #[(.int p1), (.int p2), (.int p3), (.int p4), (.int p5), (.int p6)] below meth c T235 _ 1 4 := X235
          have F_236 : Fld Z h235 b235 "com/example/bindery/bindery/PartIndex" "hashes" "[I" .null := D235 (Or.inl (wI hw 22 rfl)) (ty := (.array .int)) (by decide)
          have F_237 : Fld Z h235 b235 "com/example/bindery/bindery/PartIndex" "slots" "[I" .null := D235 (Or.inl (wI hw 30 rfl)) (ty := (.array .int)) (by decide)
          have F_238 : Fld Z h235 b235 "com/example/bindery/bindery/PartIndex" "size" "I" (.int 0) := D235 (Or.inl (wI hw 32 rfl)) (ty := .int) (by decide)
          have F_239 : Fld Z h235 b235 "com/example/bindery/bindery/PartIndex" "shift" "I" (.int 0) := D235 (Or.inl (wI hw 61 rfl)) (ty := .int) (by decide)
          refine Goes.on (fun t k => st235 t k) ?_
          show Goes p e below QQ (T235.setTop (mkF m 89 #[iv p1, iv p2, iv p3, iv p4, iv p5, iv p6, iv 1, iv 2, iv g2, iv g3, iv ((9 : Int32) + (p6 &&& (7 : Int32))), .unset, .unset, .unset, .unset, .unset] [(.ref b235)]))
          refine G1 (XS.dup X235.here hx rfl (hb hby at_89) rfl rfl) ?_
          refine G1 (XS.iload X235.here hx rfl (hb hby at_90) rfl) ?_
          show Goes p e below QQ (T235.setTop (mkF m 92 #[iv p1, iv p2, iv p3, iv p4, iv p5, iv p6, iv 1, iv 2, iv g2, iv g3, iv ((9 : Int32) + (p6 &&& (7 : Int32))), .unset, .unset, .unset, .unset, .unset] [(.int ((9 : Int32) + (p6 &&& (7 : Int32)))), (.ref b235), (.ref b235)]))
          obtain ⟨nn, hr, hn⟩ := own_room1 p6
          obtain ⟨_, _, ⟨T240, L240, k240, n240⟩, -, X240, ⟨Lc240, hQ240, l240, y240, z240⟩, st240⟩ := X235.specialBack hx (y := (⟨"com/example/bindery/bindery/PartIndex", "<init>", "(I)V"⟩ : MethodName)) rfl hown (mvT hZ (wI hw 3 rfl)) (mvT hZ (wI hw 4 rfl)) (mvT hZ (wI hw 5 rfl)) (by decide) (backOf (W := 1) (rmIn1 l Z a0 hw [] b235 ((9 : Int32) + (p6 &&& (7 : Int32))) nn h235 n0 (Nat.le_trans Z0 K235.1) A235 F_236 F_237 F_239 F_238 g_b235 hr hn) hZ (wI hw 5 rfl) (wI hw 2 rfl) (by decide) (by decide)) (g := (mkF m 92 #[iv p1, iv p2, iv p3, iv p4, iv p5, iv p6, iv 1, iv 2, iv g2, iv g3, iv ((9 : Int32) + (p6 &&& (7 : Int32))), .unset, .unset, .unset, .unset, .unset] [(.int ((9 : Int32) + (p6 &&& (7 : Int32)))), (.ref b235), (.ref b235)])) rfl (by rw [hml]; rfl) (Steps.refl _) (a := b235) (argsL := [(.int ((9 : Int32) + (p6 &&& (7 : Int32))))]) (rest := [(.ref b235)]) (lenOf pd_2 rfl) rfl (by show 2 * 0 + _ ≤ _; exact Nat.le_of_eq rfl) (hb hby at_92) (fun _ _ => ⟨rfl, e235, (by decide : 1 + 2 ≤ _), (by decide : 4 + 48 ≤ _)⟩)
          dsimp only [Pt.U, Pt.locs, Pt.cells, Pt.slots] at X240 l240 y240 z240 st240 hQ240
          have l240 := l240.symm; have y240 := y240.symm; have z240 := z240.symm; subst l240 y240 z240
          have X240 : Stand p l e room_1 s m #[(.int p1), (.int p2), (.int p3), (.int p4), (.int p5), (.int p6)] below meth c T240 _ 3 52 := X240
          obtain ⟨bh, kh, bd, kd, rfl, M240, Kc, szh, szd, nehd, ⟨hashes_c, slots_c, shift_c, size_c⟩, Vh, Vd⟩ := hQ240
          have sz_bh : h0.size ≤ bh := Nat.le_trans K235.1 szh
          have g_bh : n0 ≤ bh := Nat.le_trans Z0 sz_bh
          have ne_b235_bh : b235 ≠ bh := Nat.ne_of_lt (Nat.lt_of_lt_of_le A235.lt szh)
          have sz_bd : h0.size ≤ bd := Nat.le_trans K235.1 szd
          have g_bd : n0 ≤ bd := Nat.le_trans Z0 sz_bd
          have ne_b235_bd : b235 ≠ bd := Nat.ne_of_lt (Nat.lt_of_lt_of_le A235.lt szd)
          have N240 := Fr.app NJ234 M240
          refine Goes.on (fun t k => st240.trans k) ?_
          have A235_241 := A235.keep Kc
          have K246 := K235.trans Kc (allS (Or.inr sz_b235) all0)
          show Goes p e below QQ (T240.setTop (mkF m 95 #[iv p1, iv p2, iv p3, iv p4, iv p5, iv p6, iv 1, iv 2, iv g2, iv g3, iv ((9 : Int32) + (p6 &&& (7 : Int32))), .unset, .unset, .unset, .unset, .unset] [(.ref b235)]))
          obtain ⟨S0, hS0⟩ : ∃ z : List Value, z = (List.replicate 32 (.int (0 : Int32))) := ⟨_, rfl⟩
          rw [← hS0] at Vd
          have HS0 : IntS S0 := by rw [hS0]; exact own_S0
          show Goes p e below QQ (T240.setTop (mkF m 95 #[iv p1, iv p2, iv p3, iv p4, iv p5, iv p6, iv 1, iv 2, iv g2, iv g3, iv ((9 : Int32) + (p6 &&& (7 : Int32))), .unset, .unset, .unset, .unset, .unset] [(.ref b235)]))
          refine G1 (XS.astore X240.here hx rfl (hb hby at_95) rfl rfl (l' := #[iv p1, iv p2, iv p3, iv p4, iv p5, iv p6, iv 1, iv 2, iv g2, iv g3, iv ((9 : Int32) + (p6 &&& (7 : Int32))), rv b235, .unset, .unset, .unset, .unset]) rfl) ?_
          refine G1 (XS.iload X240.here hx rfl (hb hby at_97) rfl) ?_
          refine G1 (XS.iconst X240.here hx rfl (hb hby at_99)) ?_
          show Gs p e below QQ T240 m 100 #[iv p1, iv p2, iv p3, iv p4, iv p5, iv p6, iv 1, iv 2, iv g2, iv g3, iv ((9 : Int32) + (p6 &&& (7 : Int32))), rv b235, .unset, .unset, .unset, .unset] [(.int 1), (.int 2)]
          refine G1 (XS.icmpNo X240.here hx rfl (hb hby at_100) rfl (flt (by decide)).1) ?_
          show Gs p e below QQ T240 m 103 #[iv p1, iv p2, iv p3, iv p4, iv p5, iv p6, iv 1, iv 2, iv g2, iv g3, iv ((9 : Int32) + (p6 &&& (7 : Int32))), rv b235, .unset, .unset, .unset, .unset] []
          refine G1 (XS.aload X240.here hx rfl (hb hby at_103) rfl rfl) ?_
          refine G1 (XS.iloadN X240.here hx rfl (hb hby at_105) rfl) ?_
          show Goes p e below QQ (T240.setTop (mkF m 106 #[iv p1, iv p2, iv p3, iv p4, iv p5, iv p6, iv 1, iv 2, iv g2, iv g3, iv ((9 : Int32) + (p6 &&& (7 : Int32))), rv b235, .unset, .unset, .unset, .unset] [(.int p2), (.ref b235)]))
          have HF0 := own_free0 S0 hS0 p2
          obtain ⟨cq247, kq247, q247a, q247b, q247c⟩ := isOf hZ rfl A235_241
          obtain ⟨_, _, ⟨T247, L247, k247, n247⟩, -, X247, ⟨Lc247, hQ247, l247, y247, z247⟩, st247⟩ := X240.virtualBack hx (y := (⟨"com/example/bindery/bindery/PartIndex", "add", "(I)V"⟩ : MethodName)) (z := (⟨"com/example/bindery/bindery/PartIndex", "add", "(I)V"⟩ : MethodName)) hown (mvT hZ (wI hw 37 rfl)) (mvT hZ (wI hw 38 rfl)) (notFace_of_selects (args := #[]) (mvT hZ (wI hw 40 rfl))) (mvT hZ (wI hw 40 rfl)) (mvT hZ (wI hw 39 rfl)) (by decide) (backOf (W := 0) (rmA1_0 l Z a0 hw [] b235 bh bd p2 kh kd nn (0 : Int32) (0 : Int32) (0 : Int32) S0 T240.heap n0 (Nat.le_trans Z0 K246.1) A235_241 hashes_c slots_c shift_c size_c Vh Vd g_b235 g_bh g_bd ne_b235_bh ne_b235_bd nehd (own_lt9 (0 : Int32) nn hn (by decide)) HS0 HF0) hZ (wI hw 41 rfl) (wI hw 2 rfl) (by decide) (by decide)) q247a q247c (g := (mkF m 106 #[iv p1, iv p2, iv p3, iv p4, iv p5, iv p6, iv 1, iv 2, iv g2, iv g3, iv ((9 : Int32) + (p6 &&& (7 : Int32))), rv b235, .unset, .unset, .unset, .unset] [(.int p2), (.ref b235)])) rfl (by rw [hml]; rfl) (Steps.refl _) (argsL := [(.int p2)]) (rest := []) (lenOf pd_2 rfl) rfl (by show 2 * 0 + _ ≤ _; exact Nat.le_of_eq rfl) (hb hby at_106) (fun _ _ => ⟨rfl, rfl, (by decide : 3 + 0 ≤ _), (by decide : 52 + 0 ≤ _)⟩)
          dsimp only [Pt.U, Pt.locs, Pt.cells, Pt.slots] at X247 l247 y247 z247 st247 hQ247
          have l247 := l247.symm; have y247 := y247.symm; have z247 := z247.symm; subst l247 y247 z247
          have X247 : Stand p l e room_1 s m #[(.int p1), (.int p2), (.int p3), (.int p4), (.int p5), (.int p6)] below meth c T247 _ 3 52 := X247
          obtain ⟨rfl, M247, Kca0, ⟨hashes_a0, slots_a0, shift_a0, size_a0⟩, Vha0, Vda0⟩ := hQ247
          have N247 := Fr.app N240 M247
          refine Goes.on (fun t k => st247.trans k) ?_
          have A235_248 := A235_241.keep Kca0
          have K255 := K246.trans Kca0 (allS (Or.inr sz_b235) (allS (Or.inr sz_bh) (allS (Or.inr sz_bd) all0)))
          show Goes p e below QQ (T247.setTop (mkF m 109 #[iv p1, iv p2, iv p3, iv p4, iv p5, iv p6, iv 1, iv 2, iv g2, iv g3, iv ((9 : Int32) + (p6 &&& (7 : Int32))), rv b235, .unset, .unset, .unset, .unset] []))
          obtain ⟨S1, hS1⟩ : ∃ z : List Value, z = S0.set (prF S0 (stF p2)).toNatClampNeg (.int (1 : Int32)) := ⟨_, rfl⟩
          rw [← hS1] at Vda0
          have HS1 : IntS S1 := by rw [hS1]; exact own_IntS _ _ _ HS0
          show Goes p e below QQ (T247.setTop (mkF m 109 #[iv p1, iv p2, iv p3, iv p4, iv p5, iv p6, iv 1, iv 2, iv g2, iv g3, iv ((9 : Int32) + (p6 &&& (7 : Int32))), rv b235, .unset, .unset, .unset, .unset] []))
          refine G1 (XS.iload X247.here hx rfl (hb hby at_109) rfl) ?_
          refine G1 (XS.iconst X247.here hx rfl (hb hby at_111)) ?_
          show Gs p e below QQ T247 m 112 #[iv p1, iv p2, iv p3, iv p4, iv p5, iv p6, iv 1, iv 2, iv g2, iv g3, iv ((9 : Int32) + (p6 &&& (7 : Int32))), rv b235, .unset, .unset, .unset, .unset] [(.int 2), (.int 2)]
          refine G1 (XS.icmpNo X247.here hx rfl (hb hby at_112) rfl (flt (by decide)).1) ?_
          show Gs p e below QQ T247 m 115 #[iv p1, iv p2, iv p3, iv p4, iv p5, iv p6, iv 1, iv 2, iv g2, iv g3, iv ((9 : Int32) + (p6 &&& (7 : Int32))), rv b235, .unset, .unset, .unset, .unset] []
          refine G1 (XS.aload X247.here hx rfl (hb hby at_115) rfl rfl) ?_
          refine G1 (XS.iload X247.here hx rfl (hb hby at_117) rfl) ?_
          show Goes p e below QQ (T247.setTop (mkF m 119 #[iv p1, iv p2, iv p3, iv p4, iv p5, iv p6, iv 1, iv 2, iv g2, iv g3, iv ((9 : Int32) + (p6 &&& (7 : Int32))), rv b235, .unset, .unset, .unset, .unset] [(.int g2), (.ref b235)]))
          have HF1 := own_free1 p2 g2 S0 S1 hS0 hS1
          obtain ⟨cq256, kq256, q256a, q256b, q256c⟩ := isOf hZ rfl A235_248
          obtain ⟨_, _, ⟨T256, L256, k256, n256⟩, -, X256, ⟨Lc256, hQ256, l256, y256, z256⟩, st256⟩ := X247.virtualBack hx (y := (⟨"com/example/bindery/bindery/PartIndex", "add", "(I)V"⟩ : MethodName)) (z := (⟨"com/example/bindery/bindery/PartIndex", "add", "(I)V"⟩ : MethodName)) hown (mvT hZ (wI hw 37 rfl)) (mvT hZ (wI hw 38 rfl)) (notFace_of_selects (args := #[]) (mvT hZ (wI hw 40 rfl))) (mvT hZ (wI hw 40 rfl)) (mvT hZ (wI hw 39 rfl)) (by decide) (backOf (W := 0) (rmA1_1 l Z a0 hw [] b235 bh bd g2 kh kd nn p2 (0 : Int32) (0 : Int32) S1 T247.heap n0 (Nat.le_trans Z0 K255.1) A235_248 hashes_a0 slots_a0 shift_a0 size_a0 Vha0 Vda0 g_b235 g_bh g_bd ne_b235_bh ne_b235_bd nehd (own_lt9 (1 : Int32) nn hn (by decide)) HS1 HF1) hZ (wI hw 41 rfl) (wI hw 2 rfl) (by decide) (by decide)) q256a q256c (g := (mkF m 119 #[iv p1, iv p2, iv p3, iv p4, iv p5, iv p6, iv 1, iv 2, iv g2, iv g3, iv ((9 : Int32) + (p6 &&& (7 : Int32))), rv b235, .unset, .unset, .unset, .unset] [(.int g2), (.ref b235)])) rfl (by rw [hml]; rfl) (Steps.refl _) (argsL := [(.int g2)]) (rest := []) (lenOf pd_2 rfl) rfl (by show 2 * 0 + _ ≤ _; exact Nat.le_of_eq rfl) (hb hby at_119) (fun _ _ => ⟨rfl, rfl, (by decide : 3 + 0 ≤ _), (by decide : 52 + 0 ≤ _)⟩)
          dsimp only [Pt.U, Pt.locs, Pt.cells, Pt.slots] at X256 l256 y256 z256 st256 hQ256
          have l256 := l256.symm; have y256 := y256.symm; have z256 := z256.symm; subst l256 y256 z256
          have X256 : Stand p l e room_1 s m #[(.int p1), (.int p2), (.int p3), (.int p4), (.int p5), (.int p6)] below meth c T256 _ 3 52 := X256
          obtain ⟨rfl, M256, Kca1, ⟨hashes_a1, slots_a1, shift_a1, size_a1⟩, Vha1, Vda1⟩ := hQ256
          have N256 := Fr.app N247 M256
          refine Goes.on (fun t k => st256.trans k) ?_
          have A235_257 := A235_248.keep Kca1
          have K264 := K255.trans Kca1 (allS (Or.inr sz_b235) (allS (Or.inr sz_bh) (allS (Or.inr sz_bd) all0)))
          show Goes p e below QQ (T256.setTop (mkF m 122 #[iv p1, iv p2, iv p3, iv p4, iv p5, iv p6, iv 1, iv 2, iv g2, iv g3, iv ((9 : Int32) + (p6 &&& (7 : Int32))), rv b235, .unset, .unset, .unset, .unset] []))
          obtain ⟨S2, hS2⟩ : ∃ z : List Value, z = S1.set (prF S1 (stF g2)).toNatClampNeg (.int (2 : Int32)) := ⟨_, rfl⟩
          rw [← hS2] at Vda1
          have HS2 : IntS S2 := by rw [hS2]; exact own_IntS _ _ _ HS1
          show Goes p e below QQ (T256.setTop (mkF m 122 #[iv p1, iv p2, iv p3, iv p4, iv p5, iv p6, iv 1, iv 2, iv g2, iv g3, iv ((9 : Int32) + (p6 &&& (7 : Int32))), rv b235, .unset, .unset, .unset, .unset] []))
          refine G1 (XS.iload X256.here hx rfl (hb hby at_122) rfl) ?_
          refine G1 (XS.iconst X256.here hx rfl (hb hby at_124)) ?_
          show Gs p e below QQ T256 m 125 #[iv p1, iv p2, iv p3, iv p4, iv p5, iv p6, iv 1, iv 2, iv g2, iv g3, iv ((9 : Int32) + (p6 &&& (7 : Int32))), rv b235, .unset, .unset, .unset, .unset] [(.int 3), (.int 2)]
          refine G1 (XS.icmpYes X256.here hx rfl (pc0 := 125) (pc' := 135) rfl (hb hby at_125) rfl (tlt (by decide)).1 (by decide) (by decide)) ?_
          show Gs p e below QQ T256 m 135 #[iv p1, iv p2, iv p3, iv p4, iv p5, iv p6, iv 1, iv 2, iv g2, iv g3, iv ((9 : Int32) + (p6 &&& (7 : Int32))), rv b235, .unset, .unset, .unset, .unset] []
          refine G1 (XS.iload X256.here hx rfl (hb hby at_135) rfl) ?_
          show Gs p e below QQ T256 m 137 #[iv p1, iv p2, iv p3, iv p4, iv p5, iv p6, iv 1, iv 2, iv g2, iv g3, iv ((9 : Int32) + (p6 &&& (7 : Int32))), rv b235, .unset, .unset, .unset, .unset] [(.int 1)]
          refine G1 (XS.ifYes X256.here hx rfl (pc0 := 137) (pc' := 228) rfl (hb hby at_137) rfl ((if0 _ _).trans (feq (by decide)).2) (by decide) (by decide)) ?_
          show Gs p e below QQ T256 m 228 #[iv p1, iv p2, iv p3, iv p4, iv p5, iv p6, iv 1, iv 2, iv g2, iv g3, iv ((9 : Int32) + (p6 &&& (7 : Int32))), rv b235, .unset, .unset, .unset, .unset] []
          refine G1 (XS.aload X256.here hx rfl (hb hby at_228) rfl rfl) ?_
          refine G1 (XS.iloadN X256.here hx rfl (hb hby at_230) rfl) ?_
          show Goes p e below QQ (T256.setTop (mkF m 231 #[iv p1, iv p2, iv p3, iv p4, iv p5, iv p6, iv 1, iv 2, iv g2, iv g3, iv ((9 : Int32) + (p6 &&& (7 : Int32))), rv b235, .unset, .unset, .unset, .unset] [(.int p2), (.ref b235)]))
          obtain ⟨cq265, kq265, q265a, q265b, q265c⟩ := isOf hZ rfl A235_257
          obtain ⟨_, _, ⟨T265, L265, k265, n265⟩, -, X265, ⟨Lc265, hQ265, l265, y265, z265⟩, st265⟩ := X256.virtualBack hx (y := (⟨"com/example/bindery/bindery/PartIndex", "start", "(I)I"⟩ : MethodName)) (z := (⟨"com/example/bindery/bindery/PartIndex", "start", "(I)I"⟩ : MethodName)) hown (mvT hZ (wI hw 77 rfl)) (mvT hZ (wI hw 67 rfl)) (notFace_of_selects (args := #[]) (mvT hZ (wI hw 69 rfl))) (mvT hZ (wI hw 69 rfl)) (mvT hZ (wI hw 68 rfl)) (by decide) (backOf (W := 0) (rmSt l Z a0 hw [] b235 p2 bd T256.heap n0 (Nat.le_trans Z0 K264.1) slots_a1 shift_a1) hZ (wI hw 70 rfl) (wI hw 2 rfl) (by decide) (by decide)) q265a q265c (g := (mkF m 231 #[iv p1, iv p2, iv p3, iv p4, iv p5, iv p6, iv 1, iv 2, iv g2, iv g3, iv ((9 : Int32) + (p6 &&& (7 : Int32))), rv b235, .unset, .unset, .unset, .unset] [(.int p2), (.ref b235)])) rfl (by rw [hml]; rfl) (Steps.refl _) (argsL := [(.int p2)]) (rest := []) (lenOf pd_1 rfl) rfl (by show 2 * 0 + _ ≤ _; exact Nat.le_of_eq rfl) (hb hby at_231) (fun _ _ => ⟨rfl, rfl, (by decide : 3 + 0 ≤ _), (by decide : 52 + 0 ≤ _)⟩)
          dsimp only [Pt.U, Pt.locs, Pt.cells, Pt.slots] at X265 l265 y265 z265 st265 hQ265
          have l265 := l265.symm; have y265 := y265.symm; have z265 := z265.symm; subst l265 y265 z265
          have X265 : Stand p l e room_1 s m #[(.int p1), (.int p2), (.int p3), (.int p4), (.int p5), (.int p6)] below meth c T265 _ 3 52 := X265
          obtain ⟨rfl, M265, e265⟩ := hQ265
          have N265 := Fr.app N256 M265
          refine Goes.on (fun t k => st265.trans k) ?_
          show Goes p e below QQ (T265.setTop (mkF m 234 #[iv p1, iv p2, iv p3, iv p4, iv p5, iv p6, iv 1, iv 2, iv g2, iv g3, iv ((9 : Int32) + (p6 &&& (7 : Int32))), rv b235, .unset, .unset, .unset, .unset] [(.int (stF p2))]))
          refine G1 (XS.istore X265.here hx rfl (hb hby at_234) rfl (l' := #[iv p1, iv p2, iv p3, iv p4, iv p5, iv p6, iv 1, iv 2, iv g2, iv g3, iv ((9 : Int32) + (p6 &&& (7 : Int32))), rv b235, iv (stF p2), .unset, .unset, .unset]) rfl) ?_
          refine G1 (XS.aload X265.here hx rfl (hb hby at_236) rfl rfl) ?_
          refine G1 (XS.iload X265.here hx rfl (hb hby at_238) rfl) ?_
          show Goes p e below QQ (T265.setTop (mkF m 240 #[iv p1, iv p2, iv p3, iv p4, iv p5, iv p6, iv 1, iv 2, iv g2, iv g3, iv ((9 : Int32) + (p6 &&& (7 : Int32))), rv b235, iv (stF p2), .unset, .unset, .unset] [(.int g2), (.ref b235)]))
          obtain ⟨cq266, kq266, q266a, q266b, q266c⟩ := isOf hZ e265 A235_257
          obtain ⟨_, _, ⟨T266, L266, k266, n266⟩, -, X266, ⟨Lc266, hQ266, l266, y266, z266⟩, st266⟩ := X265.virtualBack hx (y := (⟨"com/example/bindery/bindery/PartIndex", "start", "(I)I"⟩ : MethodName)) (z := (⟨"com/example/bindery/bindery/PartIndex", "start", "(I)I"⟩ : MethodName)) hown (mvT hZ (wI hw 77 rfl)) (mvT hZ (wI hw 67 rfl)) (notFace_of_selects (args := #[]) (mvT hZ (wI hw 69 rfl))) (mvT hZ (wI hw 69 rfl)) (mvT hZ (wI hw 68 rfl)) (by decide) (backOf (W := 0) (rmSt l Z a0 hw [] b235 g2 bd T256.heap n0 (Nat.le_trans Z0 K264.1) slots_a1 shift_a1) hZ (wI hw 70 rfl) (wI hw 2 rfl) (by decide) (by decide)) q266a q266c (g := (mkF m 240 #[iv p1, iv p2, iv p3, iv p4, iv p5, iv p6, iv 1, iv 2, iv g2, iv g3, iv ((9 : Int32) + (p6 &&& (7 : Int32))), rv b235, iv (stF p2), .unset, .unset, .unset] [(.int g2), (.ref b235)])) rfl (by rw [hml]; rfl) (Steps.refl _) (argsL := [(.int g2)]) (rest := []) (lenOf pd_1 rfl) rfl (by show 2 * 0 + _ ≤ _; exact Nat.le_of_eq rfl) (hb hby at_240) (fun _ _ => ⟨rfl, e265, (by decide : 3 + 0 ≤ _), (by decide : 52 + 0 ≤ _)⟩)
          dsimp only [Pt.U, Pt.locs, Pt.cells, Pt.slots] at X266 l266 y266 z266 st266 hQ266
          have l266 := l266.symm; have y266 := y266.symm; have z266 := z266.symm; subst l266 y266 z266
          have X266 : Stand p l e room_1 s m #[(.int p1), (.int p2), (.int p3), (.int p4), (.int p5), (.int p6)] below meth c T266 _ 3 52 := X266
          obtain ⟨rfl, M266, e266⟩ := hQ266
          have N266 := Fr.app N265 M266
          refine Goes.on (fun t k => st266.trans k) ?_
          show Goes p e below QQ (T266.setTop (mkF m 243 #[iv p1, iv p2, iv p3, iv p4, iv p5, iv p6, iv 1, iv 2, iv g2, iv g3, iv ((9 : Int32) + (p6 &&& (7 : Int32))), rv b235, iv (stF p2), .unset, .unset, .unset] [(.int (stF g2))]))
          refine G1 (XS.istore X266.here hx rfl (hb hby at_243) rfl (l' := #[iv p1, iv p2, iv p3, iv p4, iv p5, iv p6, iv 1, iv 2, iv g2, iv g3, iv ((9 : Int32) + (p6 &&& (7 : Int32))), rv b235, iv (stF p2), iv (stF g2), .unset, .unset]) rfl) ?_
          refine G1 (XS.iload X266.here hx rfl (hb hby at_245) rfl) ?_
          refine G1 (XS.iload X266.here hx rfl (hb hby at_247) rfl) ?_
          show Goes p e below QQ (T266.setTop (mkF m 249 #[iv p1, iv p2, iv p3, iv p4, iv p5, iv p6, iv 1, iv 2, iv g2, iv g3, iv ((9 : Int32) + (p6 &&& (7 : Int32))), rv b235, iv (stF p2), iv (stF g2), .unset, .unset] [(.int (stF p2)), (.int (stF g2))]))
          have J267 : ∀ (TJ267 : State) (lJ267 : List Loc), Stand p l e room_1 s m #[(.int p1), (.int p2), (.int p3), (.int p4), (.int p5), (.int p6)] below meth c TJ267 lJ267 3 52 → TJ267.heap = T256.heap → Fr n0 lJ267 → Goes p e below QQ (TJ267.setTop (mkF m 261 #[iv p1, iv p2, iv p3, iv p4, iv p5, iv p6, iv 1, iv 2, iv g2, iv g3, iv ((9 : Int32) + (p6 &&& (7 : Int32))), rv b235, iv (stF p2), iv (if (stF g2) = (stF p2) then (((stF g2) + (1 : Int32)) &&& (31 : Int32)) else (stF g2)), .unset, .unset] [])) := by
            intro TJ267 lJ267 XJ267 eJ267 NJ267
            refine G1 (XS.aload XJ267.here hx rfl (hb hby at_261) rfl rfl) ?_
            refine G1 (XS.iload XJ267.here hx rfl (hb hby at_263) rfl) ?_
            show Goes p e below QQ (TJ267.setTop (mkF m 265 #[iv p1, iv p2, iv p3, iv p4, iv p5, iv p6, iv 1, iv 2, iv g2, iv g3, iv ((9 : Int32) + (p6 &&& (7 : Int32))), rv b235, iv (stF p2), iv (if (stF g2) = (stF p2) then (((stF g2) + (1 : Int32)) &&& (31 : Int32)) else (stF g2)), .unset, .unset] [(.int g3), (.ref b235)]))
            obtain ⟨cq268, kq268, q268a, q268b, q268c⟩ := isOf hZ eJ267 A235_257
            obtain ⟨_, _, ⟨T268, L268, k268, n268⟩, -, X268, ⟨Lc268, hQ268, l268, y268, z268⟩, st268⟩ := XJ267.virtualBack hx (y := (⟨"com/example/bindery/bindery/PartIndex", "start", "(I)I"⟩ : MethodName)) (z := (⟨"com/example/bindery/bindery/PartIndex", "start", "(I)I"⟩ : MethodName)) hown (mvT hZ (wI hw 77 rfl)) (mvT hZ (wI hw 67 rfl)) (notFace_of_selects (args := #[]) (mvT hZ (wI hw 69 rfl))) (mvT hZ (wI hw 69 rfl)) (mvT hZ (wI hw 68 rfl)) (by decide) (backOf (W := 0) (rmSt l Z a0 hw [] b235 g3 bd T256.heap n0 (Nat.le_trans Z0 K264.1) slots_a1 shift_a1) hZ (wI hw 70 rfl) (wI hw 2 rfl) (by decide) (by decide)) q268a q268c (g := (mkF m 265 #[iv p1, iv p2, iv p3, iv p4, iv p5, iv p6, iv 1, iv 2, iv g2, iv g3, iv ((9 : Int32) + (p6 &&& (7 : Int32))), rv b235, iv (stF p2), iv (if (stF g2) = (stF p2) then (((stF g2) + (1 : Int32)) &&& (31 : Int32)) else (stF g2)), .unset, .unset] [(.int g3), (.ref b235)])) rfl (by rw [hml]; rfl) (Steps.refl _) (argsL := [(.int g3)]) (rest := []) (lenOf pd_1 rfl) rfl (by show 2 * 0 + _ ≤ _; exact Nat.le_of_eq rfl) (hb hby at_265) (fun _ _ => ⟨rfl, eJ267, (by decide : 3 + 0 ≤ _), (by decide : 52 + 0 ≤ _)⟩)
            dsimp only [Pt.U, Pt.locs, Pt.cells, Pt.slots] at X268 l268 y268 z268 st268 hQ268
            have l268 := l268.symm; have y268 := y268.symm; have z268 := z268.symm; subst l268 y268 z268
            have X268 : Stand p l e room_1 s m #[(.int p1), (.int p2), (.int p3), (.int p4), (.int p5), (.int p6)] below meth c T268 _ 3 52 := X268
            obtain ⟨rfl, M268, e268⟩ := hQ268
            have N268 := Fr.app NJ267 M268
            refine Goes.on (fun t k => st268.trans k) ?_
            show Goes p e below QQ (T268.setTop (mkF m 268 #[iv p1, iv p2, iv p3, iv p4, iv p5, iv p6, iv 1, iv 2, iv g2, iv g3, iv ((9 : Int32) + (p6 &&& (7 : Int32))), rv b235, iv (stF p2), iv (if (stF g2) = (stF p2) then (((stF g2) + (1 : Int32)) &&& (31 : Int32)) else (stF g2)), .unset, .unset] [(.int (stF g3))]))
            refine G1 (XS.istore X268.here hx rfl (hb hby at_268) rfl (l' := #[iv p1, iv p2, iv p3, iv p4, iv p5, iv p6, iv 1, iv 2, iv g2, iv g3, iv ((9 : Int32) + (p6 &&& (7 : Int32))), rv b235, iv (stF p2), iv (if (stF g2) = (stF p2) then (((stF g2) + (1 : Int32)) &&& (31 : Int32)) else (stF g2)), iv (stF g3), .unset]) rfl) ?_
            refine G1 (XS.iload X268.here hx rfl (hb hby at_270) rfl) ?_
            refine G1 (XS.iload X268.here hx rfl (hb hby at_272) rfl) ?_
            show Goes p e below QQ (T268.setTop (mkF m 274 #[iv p1, iv p2, iv p3, iv p4, iv p5, iv p6, iv 1, iv 2, iv g2, iv g3, iv ((9 : Int32) + (p6 &&& (7 : Int32))), rv b235, iv (stF p2), iv (if (stF g2) = (stF p2) then (((stF g2) + (1 : Int32)) &&& (31 : Int32)) else (stF g2)), iv (stF g3), .unset] [(.int (stF p2)), (.int (stF g3))]))
            have J269 : ∀ (TJ269 : State) (lJ269 : List Loc), Stand p l e room_1 s m #[(.int p1), (.int p2), (.int p3), (.int p4), (.int p5), (.int p6)] below meth c TJ269 lJ269 3 52 → TJ269.heap = T256.heap → Fr n0 lJ269 → Goes p e below QQ (TJ269.setTop (mkF m 316 #[iv p1, iv p2, iv p3, iv p4, iv p5, iv p6, iv 1, iv 2, iv g2, iv g3, iv ((9 : Int32) + (p6 &&& (7 : Int32))), rv b235, iv (stF p2), iv (if (stF g2) = (stF p2) then (((stF g2) + (1 : Int32)) &&& (31 : Int32)) else (stF g2)), iv (if (stF g3) = (stF p2) then (if (((stF g3) + (1 : Int32)) &&& (31 : Int32)) = (stF p2) then (((((stF g3) + (1 : Int32)) &&& (31 : Int32)) + (1 : Int32)) &&& (31 : Int32)) else (if (((stF g3) + (1 : Int32)) &&& (31 : Int32)) = (if (stF g2) = (stF p2) then (((stF g2) + (1 : Int32)) &&& (31 : Int32)) else (stF g2)) then (((((stF g3) + (1 : Int32)) &&& (31 : Int32)) + (1 : Int32)) &&& (31 : Int32)) else (((stF g3) + (1 : Int32)) &&& (31 : Int32)))) else (if (stF g3) = (if (stF g2) = (stF p2) then (((stF g2) + (1 : Int32)) &&& (31 : Int32)) else (stF g2)) then (if (((stF g3) + (1 : Int32)) &&& (31 : Int32)) = (stF p2) then (((((stF g3) + (1 : Int32)) &&& (31 : Int32)) + (1 : Int32)) &&& (31 : Int32)) else (if (((stF g3) + (1 : Int32)) &&& (31 : Int32)) = (if (stF g2) = (stF p2) then (((stF g2) + (1 : Int32)) &&& (31 : Int32)) else (stF g2)) then (((((stF g3) + (1 : Int32)) &&& (31 : Int32)) + (1 : Int32)) &&& (31 : Int32)) else (((stF g3) + (1 : Int32)) &&& (31 : Int32)))) else (stF g3))), .unset] [])) := by
              intro TJ269 lJ269 XJ269 eJ269 NJ269
              rw [own_Q3 p2 g2 g3]
              show Goes p e below QQ (TJ269.setTop (mkF m 316 #[iv p1, iv p2, iv p3, iv p4, iv p5, iv p6, iv 1, iv 2, iv g2, iv g3, iv ((9 : Int32) + (p6 &&& (7 : Int32))), rv b235, iv (stF p2), iv (if (stF g2) = (stF p2) then (((stF g2) + (1 : Int32)) &&& (31 : Int32)) else (stF g2)), iv (P3 p2 g2 g3), .unset] []))
              rw [own_Q2 p2 g2]
              show Goes p e below QQ (TJ269.setTop (mkF m 316 #[iv p1, iv p2, iv p3, iv p4, iv p5, iv p6, iv 1, iv 2, iv g2, iv g3, iv ((9 : Int32) + (p6 &&& (7 : Int32))), rv b235, iv (stF p2), iv (P2 p2 g2), iv (P3 p2 g2 g3), .unset] []))
              refine G1 (XS.iload XJ269.here hx rfl (hb hby at_316) rfl) ?_
              refine G1 (XS.bipush XJ269.here hx rfl (hb hby at_318)) ?_
              show Gs p e below QQ TJ269 m 320 #[iv p1, iv p2, iv p3, iv p4, iv p5, iv p6, iv 1, iv 2, iv g2, iv g3, iv ((9 : Int32) + (p6 &&& (7 : Int32))), rv b235, iv (stF p2), iv (P2 p2 g2), iv (P3 p2 g2 g3), .unset] [(.int 31), (.int p5)]
              refine G1 (XS.iand XJ269.here hx rfl (hb hby at_320) rfl) ?_
              show Gs p e below QQ TJ269 m 321 #[iv p1, iv p2, iv p3, iv p4, iv p5, iv p6, iv 1, iv 2, iv g2, iv g3, iv ((9 : Int32) + (p6 &&& (7 : Int32))), rv b235, iv (stF p2), iv (P2 p2 g2), iv (P3 p2 g2 g3), .unset] [(.int (p5 &&& (31 : Int32)))]
              refine G1 (XS.istore XJ269.here hx rfl (hb hby at_321) rfl (l' := #[iv p1, iv p2, iv p3, iv p4, iv p5, iv p6, iv 1, iv 2, iv g2, iv g3, iv ((9 : Int32) + (p6 &&& (7 : Int32))), rv b235, iv (stF p2), iv (P2 p2 g2), iv (P3 p2 g2 g3), iv (p5 &&& (31 : Int32))]) rfl) ?_
              refine G1 (XS.aload XJ269.here hx rfl (hb hby at_323) rfl rfl) ?_
              refine G1 (XS.iload XJ269.here hx rfl (hb hby at_325) rfl) ?_
              show Goes p e below QQ (TJ269.setTop (mkF m 327 #[iv p1, iv p2, iv p3, iv p4, iv p5, iv p6, iv 1, iv 2, iv g2, iv g3, iv ((9 : Int32) + (p6 &&& (7 : Int32))), rv b235, iv (stF p2), iv (P2 p2 g2), iv (P3 p2 g2 g3), iv (p5 &&& (31 : Int32))] [(.int (p5 &&& (31 : Int32))), (.ref b235)]))
              obtain ⟨cq270, kq270, q270a, q270b, q270c⟩ := isOf hZ eJ269 A235_257
              obtain ⟨_, _, ⟨T270, L270, k270, n270⟩, -, X270, ⟨Lc270, hQ270, l270, y270, z270⟩, st270⟩ := XJ269.virtualBack hx (y := (⟨"com/example/bindery/bindery/PartIndex", "entryAt", "(I)I"⟩ : MethodName)) (z := (⟨"com/example/bindery/bindery/PartIndex", "entryAt", "(I)I"⟩ : MethodName)) hown (mvT hZ (wI hw 24 rfl)) (mvT hZ (wI hw 25 rfl)) (notFace_of_selects (args := #[]) (mvT hZ (wI hw 27 rfl))) (mvT hZ (wI hw 27 rfl)) (mvT hZ (wI hw 26 rfl)) (by decide) (backOf (W := 0) (rmE1 l Z a0 hw [] b235 (p5 &&& (31 : Int32)) bd kd S2 (gi S2 (p5 &&& (31 : Int32))) T256.heap n0 (Nat.le_trans Z0 K264.1) slots_a1 Vda1 (own_m31 p5) (HS2.2 _)) hZ (wI hw 28 rfl) (wI hw 2 rfl) (by decide) (by decide)) q270a q270c (g := (mkF m 327 #[iv p1, iv p2, iv p3, iv p4, iv p5, iv p6, iv 1, iv 2, iv g2, iv g3, iv ((9 : Int32) + (p6 &&& (7 : Int32))), rv b235, iv (stF p2), iv (P2 p2 g2), iv (P3 p2 g2 g3), iv (p5 &&& (31 : Int32))] [(.int (p5 &&& (31 : Int32))), (.ref b235)])) rfl (by rw [hml]; rfl) (Steps.refl _) (argsL := [(.int (p5 &&& (31 : Int32)))]) (rest := []) (lenOf pd_1 rfl) rfl (by show 2 * 0 + _ ≤ _; exact Nat.le_of_eq rfl) (hb hby at_327) (fun _ _ => ⟨rfl, eJ269, (by decide : 3 + 0 ≤ _), (by decide : 52 + 0 ≤ _)⟩)
              dsimp only [Pt.U, Pt.locs, Pt.cells, Pt.slots] at X270 l270 y270 z270 st270 hQ270
              have l270 := l270.symm; have y270 := y270.symm; have z270 := z270.symm; subst l270 y270 z270
              have X270 : Stand p l e room_1 s m #[(.int p1), (.int p2), (.int p3), (.int p4), (.int p5), (.int p6)] below meth c T270 _ 3 52 := X270
              obtain ⟨rfl, M270, e270⟩ := hQ270
              have N270 := Fr.app NJ269 M270
              refine Goes.on (fun t k => st270.trans k) ?_
              show Goes p e below QQ (T270.setTop (mkF m 330 #[iv p1, iv p2, iv p3, iv p4, iv p5, iv p6, iv 1, iv 2, iv g2, iv g3, iv ((9 : Int32) + (p6 &&& (7 : Int32))), rv b235, iv (stF p2), iv (P2 p2 g2), iv (P3 p2 g2 g3), iv (p5 &&& (31 : Int32))] [(.int (entS (gi S2 (p5 &&& (31 : Int32)))))]))
              refine G1 (XS.iload X270.here hx rfl (hb hby at_330) rfl) ?_
              refine G1 (XS.iload X270.here hx rfl (hb hby at_332) rfl) ?_
              refine G1 (XS.iload X270.here hx rfl (hb hby at_334) rfl) ?_
              show Gs p e below QQ T270 m 336 #[iv p1, iv p2, iv p3, iv p4, iv p5, iv p6, iv 1, iv 2, iv g2, iv g3, iv ((9 : Int32) + (p6 &&& (7 : Int32))), rv b235, iv (stF p2), iv (P2 p2 g2), iv (P3 p2 g2 g3), iv (p5 &&& (31 : Int32))] [(.int (stF p2)), (.int 2), (.int (p5 &&& (31 : Int32))), (.int (entS (gi S2 (p5 &&& (31 : Int32)))))]
              refine G1 (XS.iload X270.here hx rfl (hb hby at_336) rfl) ?_
              refine G1 (XS.iload X270.here hx rfl (hb hby at_338) rfl) ?_
              show Goes p e below QQ (T270.setTop (mkF m 340 #[iv p1, iv p2, iv p3, iv p4, iv p5, iv p6, iv 1, iv 2, iv g2, iv g3, iv ((9 : Int32) + (p6 &&& (7 : Int32))), rv b235, iv (stF p2), iv (P2 p2 g2), iv (P3 p2 g2 g3), iv (p5 &&& (31 : Int32))] [(.int (P3 p2 g2 g3)), (.int (P2 p2 g2)), (.int (stF p2)), (.int 2), (.int (p5 &&& (31 : Int32))), (.int (entS (gi S2 (p5 &&& (31 : Int32)))))]))
              obtain ⟨_, _, ⟨T271, L271, k271, n271⟩, -, X271, ⟨Lc271, hQ271, l271, y271, z271⟩, st271⟩ := Jvm.LawKit.callS X270 hx (y := (⟨"com/example/bindery/bindery/PartIndexEntryAtPinLaw", "slot", "(IIIII)I"⟩ : MethodName)) hown (mvT hZ (wI hw 78 rfl)) (mvT hZ (wI hw 79 rfl)) (mvT hZ (wI hw 35 rfl)) (mvT hZ (wI hw 80 rfl)) (by decide) (backOf (W := 1) (rmSl l Z a0 hw [] (p5 &&& (31 : Int32)) (2 : Int32) (stF p2) (P2 p2 g2) (P3 p2 g2 g3) T256.heap n0 (Nat.le_trans Z0 K264.1) ) hZ (wI hw 80 rfl) (wI hw 35 rfl) (by decide) (by decide)) (g := (mkF m 340 #[iv p1, iv p2, iv p3, iv p4, iv p5, iv p6, iv 1, iv 2, iv g2, iv g3, iv ((9 : Int32) + (p6 &&& (7 : Int32))), rv b235, iv (stF p2), iv (P2 p2 g2), iv (P3 p2 g2 g3), iv (p5 &&& (31 : Int32))] [(.int (P3 p2 g2 g3)), (.int (P2 p2 g2)), (.int (stF p2)), (.int 2), (.int (p5 &&& (31 : Int32))), (.int (entS (gi S2 (p5 &&& (31 : Int32)))))])) rfl (by rw [hml]; rfl) (argsL := [(.int (p5 &&& (31 : Int32))), (.int 2), (.int (stF p2)), (.int (P2 p2 g2)), (.int (P3 p2 g2 g3))]) (rest := [(.int (entS (gi S2 (p5 &&& (31 : Int32)))))]) (lenOf pd_4 rfl) rfl (by show 2 * 0 + _ ≤ _; exact Nat.le_of_eq rfl) (hb hby at_340) (fun _ _ => ⟨rfl, e270, (by decide : 3 + 0 ≤ _), (by decide : 52 + 0 ≤ _)⟩)
              dsimp only [Pt.U, Pt.locs, Pt.cells, Pt.slots] at X271 l271 y271 z271 st271 hQ271
              have l271 := l271.symm; have y271 := y271.symm; have z271 := z271.symm; subst l271 y271 z271
              have X271 : Stand p l e room_1 s m #[(.int p1), (.int p2), (.int p3), (.int p4), (.int p5), (.int p6)] below meth c T271 _ 3 52 := X271
              obtain ⟨rfl, M271, e271⟩ := hQ271
              have N271 := Fr.app N270 M271
              refine Goes.on (fun t k => st271 _ k) ?_
              show Goes p e below QQ (T271.setTop (mkF m 343 #[iv p1, iv p2, iv p3, iv p4, iv p5, iv p6, iv 1, iv 2, iv g2, iv g3, iv ((9 : Int32) + (p6 &&& (7 : Int32))), rv b235, iv (stF p2), iv (P2 p2 g2), iv (P3 p2 g2 g3), iv (p5 &&& (31 : Int32))] [(.int (slotF (p5 &&& (31 : Int32)) (2 : Int32) (stF p2) (P2 p2 g2) (P3 p2 g2 g3))), (.int (entS (gi S2 (p5 &&& (31 : Int32)))))]))
              refine G1 (XS.icmpNo X271.here hx rfl (hb hby at_343) rfl (teq (own_slot2 p2 g2 g3 (p5 &&& (31 : Int32)) (own_m31 p5) hS0 hS1 hS2)).2) ?_
              show Gs p e below QQ T271 m 346 #[iv p1, iv p2, iv p3, iv p4, iv p5, iv p6, iv 1, iv 2, iv g2, iv g3, iv ((9 : Int32) + (p6 &&& (7 : Int32))), rv b235, iv (stF p2), iv (P2 p2 g2), iv (P3 p2 g2 g3), iv (p5 &&& (31 : Int32))] []
              refine G1 (XS.aload X271.here hx rfl (hb hby at_346) rfl rfl) ?_
              refine G1 (XS.iload X271.here hx rfl (hb hby at_348) rfl) ?_
              show Goes p e below QQ (T271.setTop (mkF m 350 #[iv p1, iv p2, iv p3, iv p4, iv p5, iv p6, iv 1, iv 2, iv g2, iv g3, iv ((9 : Int32) + (p6 &&& (7 : Int32))), rv b235, iv (stF p2), iv (P2 p2 g2), iv (P3 p2 g2 g3), iv (p5 &&& (31 : Int32))] [(.int (stF p2)), (.ref b235)]))
              obtain ⟨cq272, kq272, q272a, q272b, q272c⟩ := isOf hZ e271 A235_257
              obtain ⟨_, _, ⟨T272, L272, k272, n272⟩, -, X272, ⟨Lc272, hQ272, l272, y272, z272⟩, st272⟩ := X271.virtualBack hx (y := (⟨"com/example/bindery/bindery/PartIndex", "entryAt", "(I)I"⟩ : MethodName)) (z := (⟨"com/example/bindery/bindery/PartIndex", "entryAt", "(I)I"⟩ : MethodName)) hown (mvT hZ (wI hw 24 rfl)) (mvT hZ (wI hw 25 rfl)) (notFace_of_selects (args := #[]) (mvT hZ (wI hw 27 rfl))) (mvT hZ (wI hw 27 rfl)) (mvT hZ (wI hw 26 rfl)) (by decide) (backOf (W := 0) (rmE1 l Z a0 hw [] b235 (stF p2) bd kd S2 (gi S2 (stF p2)) T256.heap n0 (Nat.le_trans Z0 K264.1) slots_a1 Vda1 (own_st p2) (HS2.2 _)) hZ (wI hw 28 rfl) (wI hw 2 rfl) (by decide) (by decide)) q272a q272c (g := (mkF m 350 #[iv p1, iv p2, iv p3, iv p4, iv p5, iv p6, iv 1, iv 2, iv g2, iv g3, iv ((9 : Int32) + (p6 &&& (7 : Int32))), rv b235, iv (stF p2), iv (P2 p2 g2), iv (P3 p2 g2 g3), iv (p5 &&& (31 : Int32))] [(.int (stF p2)), (.ref b235)])) rfl (by rw [hml]; rfl) (Steps.refl _) (argsL := [(.int (stF p2))]) (rest := []) (lenOf pd_1 rfl) rfl (by show 2 * 0 + _ ≤ _; exact Nat.le_of_eq rfl) (hb hby at_350) (fun _ _ => ⟨rfl, e271, (by decide : 3 + 0 ≤ _), (by decide : 52 + 0 ≤ _)⟩)
              dsimp only [Pt.U, Pt.locs, Pt.cells, Pt.slots] at X272 l272 y272 z272 st272 hQ272
              have l272 := l272.symm; have y272 := y272.symm; have z272 := z272.symm; subst l272 y272 z272
              have X272 : Stand p l e room_1 s m #[(.int p1), (.int p2), (.int p3), (.int p4), (.int p5), (.int p6)] below meth c T272 _ 3 52 := X272
              obtain ⟨rfl, M272, e272⟩ := hQ272
              have N272 := Fr.app N271 M272
              refine Goes.on (fun t k => st272.trans k) ?_
              show Goes p e below QQ (T272.setTop (mkF m 353 #[iv p1, iv p2, iv p3, iv p4, iv p5, iv p6, iv 1, iv 2, iv g2, iv g3, iv ((9 : Int32) + (p6 &&& (7 : Int32))), rv b235, iv (stF p2), iv (P2 p2 g2), iv (P3 p2 g2 g3), iv (p5 &&& (31 : Int32))] [(.int (entS (gi S2 (stF p2))))]))
              refine G1 (XS.iload X272.here hx rfl (hb hby at_353) rfl) ?_
              refine G1 (XS.iload X272.here hx rfl (hb hby at_355) rfl) ?_
              refine G1 (XS.iload X272.here hx rfl (hb hby at_357) rfl) ?_
              show Gs p e below QQ T272 m 359 #[iv p1, iv p2, iv p3, iv p4, iv p5, iv p6, iv 1, iv 2, iv g2, iv g3, iv ((9 : Int32) + (p6 &&& (7 : Int32))), rv b235, iv (stF p2), iv (P2 p2 g2), iv (P3 p2 g2 g3), iv (p5 &&& (31 : Int32))] [(.int (stF p2)), (.int 2), (.int (stF p2)), (.int (entS (gi S2 (stF p2))))]
              refine G1 (XS.iload X272.here hx rfl (hb hby at_359) rfl) ?_
              refine G1 (XS.iload X272.here hx rfl (hb hby at_361) rfl) ?_
              show Goes p e below QQ (T272.setTop (mkF m 363 #[iv p1, iv p2, iv p3, iv p4, iv p5, iv p6, iv 1, iv 2, iv g2, iv g3, iv ((9 : Int32) + (p6 &&& (7 : Int32))), rv b235, iv (stF p2), iv (P2 p2 g2), iv (P3 p2 g2 g3), iv (p5 &&& (31 : Int32))] [(.int (P3 p2 g2 g3)), (.int (P2 p2 g2)), (.int (stF p2)), (.int 2), (.int (stF p2)), (.int (entS (gi S2 (stF p2))))]))
              obtain ⟨_, _, ⟨T273, L273, k273, n273⟩, -, X273, ⟨Lc273, hQ273, l273, y273, z273⟩, st273⟩ := Jvm.LawKit.callS X272 hx (y := (⟨"com/example/bindery/bindery/PartIndexEntryAtPinLaw", "slot", "(IIIII)I"⟩ : MethodName)) hown (mvT hZ (wI hw 78 rfl)) (mvT hZ (wI hw 79 rfl)) (mvT hZ (wI hw 35 rfl)) (mvT hZ (wI hw 80 rfl)) (by decide) (backOf (W := 1) (rmSl l Z a0 hw [] (stF p2) (2 : Int32) (stF p2) (P2 p2 g2) (P3 p2 g2 g3) T256.heap n0 (Nat.le_trans Z0 K264.1) ) hZ (wI hw 80 rfl) (wI hw 35 rfl) (by decide) (by decide)) (g := (mkF m 363 #[iv p1, iv p2, iv p3, iv p4, iv p5, iv p6, iv 1, iv 2, iv g2, iv g3, iv ((9 : Int32) + (p6 &&& (7 : Int32))), rv b235, iv (stF p2), iv (P2 p2 g2), iv (P3 p2 g2 g3), iv (p5 &&& (31 : Int32))] [(.int (P3 p2 g2 g3)), (.int (P2 p2 g2)), (.int (stF p2)), (.int 2), (.int (stF p2)), (.int (entS (gi S2 (stF p2))))])) rfl (by rw [hml]; rfl) (argsL := [(.int (stF p2)), (.int 2), (.int (stF p2)), (.int (P2 p2 g2)), (.int (P3 p2 g2 g3))]) (rest := [(.int (entS (gi S2 (stF p2))))]) (lenOf pd_4 rfl) rfl (by show 2 * 0 + _ ≤ _; exact Nat.le_of_eq rfl) (hb hby at_363) (fun _ _ => ⟨rfl, e272, (by decide : 3 + 0 ≤ _), (by decide : 52 + 0 ≤ _)⟩)
              dsimp only [Pt.U, Pt.locs, Pt.cells, Pt.slots] at X273 l273 y273 z273 st273 hQ273
              have l273 := l273.symm; have y273 := y273.symm; have z273 := z273.symm; subst l273 y273 z273
              have X273 : Stand p l e room_1 s m #[(.int p1), (.int p2), (.int p3), (.int p4), (.int p5), (.int p6)] below meth c T273 _ 3 52 := X273
              obtain ⟨rfl, M273, e273⟩ := hQ273
              have N273 := Fr.app N272 M273
              refine Goes.on (fun t k => st273 _ k) ?_
              show Goes p e below QQ (T273.setTop (mkF m 366 #[iv p1, iv p2, iv p3, iv p4, iv p5, iv p6, iv 1, iv 2, iv g2, iv g3, iv ((9 : Int32) + (p6 &&& (7 : Int32))), rv b235, iv (stF p2), iv (P2 p2 g2), iv (P3 p2 g2 g3), iv (p5 &&& (31 : Int32))] [(.int (slotF (stF p2) (2 : Int32) (stF p2) (P2 p2 g2) (P3 p2 g2 g3))), (.int (entS (gi S2 (stF p2))))]))
              refine G1 (XS.icmpNo X273.here hx rfl (hb hby at_366) rfl (teq (own_slot2 p2 g2 g3 (stF p2) (own_st p2) hS0 hS1 hS2)).2) ?_
              show Gs p e below QQ T273 m 369 #[iv p1, iv p2, iv p3, iv p4, iv p5, iv p6, iv 1, iv 2, iv g2, iv g3, iv ((9 : Int32) + (p6 &&& (7 : Int32))), rv b235, iv (stF p2), iv (P2 p2 g2), iv (P3 p2 g2 g3), iv (p5 &&& (31 : Int32))] []
              refine G1 (XS.aload X273.here hx rfl (hb hby at_369) rfl rfl) ?_
              refine G1 (XS.iload X273.here hx rfl (hb hby at_371) rfl) ?_
              show Goes p e below QQ (T273.setTop (mkF m 373 #[iv p1, iv p2, iv p3, iv p4, iv p5, iv p6, iv 1, iv 2, iv g2, iv g3, iv ((9 : Int32) + (p6 &&& (7 : Int32))), rv b235, iv (stF p2), iv (P2 p2 g2), iv (P3 p2 g2 g3), iv (p5 &&& (31 : Int32))] [(.int (P2 p2 g2)), (.ref b235)]))
              obtain ⟨cq274, kq274, q274a, q274b, q274c⟩ := isOf hZ e273 A235_257
              obtain ⟨_, _, ⟨T274, L274, k274, n274⟩, -, X274, ⟨Lc274, hQ274, l274, y274, z274⟩, st274⟩ := X273.virtualBack hx (y := (⟨"com/example/bindery/bindery/PartIndex", "entryAt", "(I)I"⟩ : MethodName)) (z := (⟨"com/example/bindery/bindery/PartIndex", "entryAt", "(I)I"⟩ : MethodName)) hown (mvT hZ (wI hw 24 rfl)) (mvT hZ (wI hw 25 rfl)) (notFace_of_selects (args := #[]) (mvT hZ (wI hw 27 rfl))) (mvT hZ (wI hw 27 rfl)) (mvT hZ (wI hw 26 rfl)) (by decide) (backOf (W := 0) (rmE1 l Z a0 hw [] b235 (P2 p2 g2) bd kd S2 (gi S2 (P2 p2 g2)) T256.heap n0 (Nat.le_trans Z0 K264.1) slots_a1 Vda1 (own_P2 p2 g2).1 (HS2.2 _)) hZ (wI hw 28 rfl) (wI hw 2 rfl) (by decide) (by decide)) q274a q274c (g := (mkF m 373 #[iv p1, iv p2, iv p3, iv p4, iv p5, iv p6, iv 1, iv 2, iv g2, iv g3, iv ((9 : Int32) + (p6 &&& (7 : Int32))), rv b235, iv (stF p2), iv (P2 p2 g2), iv (P3 p2 g2 g3), iv (p5 &&& (31 : Int32))] [(.int (P2 p2 g2)), (.ref b235)])) rfl (by rw [hml]; rfl) (Steps.refl _) (argsL := [(.int (P2 p2 g2))]) (rest := []) (lenOf pd_1 rfl) rfl (by show 2 * 0 + _ ≤ _; exact Nat.le_of_eq rfl) (hb hby at_373) (fun _ _ => ⟨rfl, e273, (by decide : 3 + 0 ≤ _), (by decide : 52 + 0 ≤ _)⟩)
              dsimp only [Pt.U, Pt.locs, Pt.cells, Pt.slots] at X274 l274 y274 z274 st274 hQ274
              have l274 := l274.symm; have y274 := y274.symm; have z274 := z274.symm; subst l274 y274 z274
              have X274 : Stand p l e room_1 s m #[(.int p1), (.int p2), (.int p3), (.int p4), (.int p5), (.int p6)] below meth c T274 _ 3 52 := X274
              obtain ⟨rfl, M274, e274⟩ := hQ274
              have N274 := Fr.app N273 M274
              refine Goes.on (fun t k => st274.trans k) ?_
              show Goes p e below QQ (T274.setTop (mkF m 376 #[iv p1, iv p2, iv p3, iv p4, iv p5, iv p6, iv 1, iv 2, iv g2, iv g3, iv ((9 : Int32) + (p6 &&& (7 : Int32))), rv b235, iv (stF p2), iv (P2 p2 g2), iv (P3 p2 g2 g3), iv (p5 &&& (31 : Int32))] [(.int (entS (gi S2 (P2 p2 g2))))]))
              refine G1 (XS.iload X274.here hx rfl (hb hby at_376) rfl) ?_
              refine G1 (XS.iload X274.here hx rfl (hb hby at_378) rfl) ?_
              refine G1 (XS.iload X274.here hx rfl (hb hby at_380) rfl) ?_
              show Gs p e below QQ T274 m 382 #[iv p1, iv p2, iv p3, iv p4, iv p5, iv p6, iv 1, iv 2, iv g2, iv g3, iv ((9 : Int32) + (p6 &&& (7 : Int32))), rv b235, iv (stF p2), iv (P2 p2 g2), iv (P3 p2 g2 g3), iv (p5 &&& (31 : Int32))] [(.int (stF p2)), (.int 2), (.int (P2 p2 g2)), (.int (entS (gi S2 (P2 p2 g2))))]
              refine G1 (XS.iload X274.here hx rfl (hb hby at_382) rfl) ?_
              refine G1 (XS.iload X274.here hx rfl (hb hby at_384) rfl) ?_
              show Goes p e below QQ (T274.setTop (mkF m 386 #[iv p1, iv p2, iv p3, iv p4, iv p5, iv p6, iv 1, iv 2, iv g2, iv g3, iv ((9 : Int32) + (p6 &&& (7 : Int32))), rv b235, iv (stF p2), iv (P2 p2 g2), iv (P3 p2 g2 g3), iv (p5 &&& (31 : Int32))] [(.int (P3 p2 g2 g3)), (.int (P2 p2 g2)), (.int (stF p2)), (.int 2), (.int (P2 p2 g2)), (.int (entS (gi S2 (P2 p2 g2))))]))
              obtain ⟨_, _, ⟨T275, L275, k275, n275⟩, -, X275, ⟨Lc275, hQ275, l275, y275, z275⟩, st275⟩ := Jvm.LawKit.callS X274 hx (y := (⟨"com/example/bindery/bindery/PartIndexEntryAtPinLaw", "slot", "(IIIII)I"⟩ : MethodName)) hown (mvT hZ (wI hw 78 rfl)) (mvT hZ (wI hw 79 rfl)) (mvT hZ (wI hw 35 rfl)) (mvT hZ (wI hw 80 rfl)) (by decide) (backOf (W := 1) (rmSl l Z a0 hw [] (P2 p2 g2) (2 : Int32) (stF p2) (P2 p2 g2) (P3 p2 g2 g3) T256.heap n0 (Nat.le_trans Z0 K264.1) ) hZ (wI hw 80 rfl) (wI hw 35 rfl) (by decide) (by decide)) (g := (mkF m 386 #[iv p1, iv p2, iv p3, iv p4, iv p5, iv p6, iv 1, iv 2, iv g2, iv g3, iv ((9 : Int32) + (p6 &&& (7 : Int32))), rv b235, iv (stF p2), iv (P2 p2 g2), iv (P3 p2 g2 g3), iv (p5 &&& (31 : Int32))] [(.int (P3 p2 g2 g3)), (.int (P2 p2 g2)), (.int (stF p2)), (.int 2), (.int (P2 p2 g2)), (.int (entS (gi S2 (P2 p2 g2))))])) rfl (by rw [hml]; rfl) (argsL := [(.int (P2 p2 g2)), (.int 2), (.int (stF p2)), (.int (P2 p2 g2)), (.int (P3 p2 g2 g3))]) (rest := [(.int (entS (gi S2 (P2 p2 g2))))]) (lenOf pd_4 rfl) rfl (by show 2 * 0 + _ ≤ _; exact Nat.le_of_eq rfl) (hb hby at_386) (fun _ _ => ⟨rfl, e274, (by decide : 3 + 0 ≤ _), (by decide : 52 + 0 ≤ _)⟩)
              dsimp only [Pt.U, Pt.locs, Pt.cells, Pt.slots] at X275 l275 y275 z275 st275 hQ275
              have l275 := l275.symm; have y275 := y275.symm; have z275 := z275.symm; subst l275 y275 z275
              have X275 : Stand p l e room_1 s m #[(.int p1), (.int p2), (.int p3), (.int p4), (.int p5), (.int p6)] below meth c T275 _ 3 52 := X275
              obtain ⟨rfl, M275, e275⟩ := hQ275
              have N275 := Fr.app N274 M275
              refine Goes.on (fun t k => st275 _ k) ?_
              show Goes p e below QQ (T275.setTop (mkF m 389 #[iv p1, iv p2, iv p3, iv p4, iv p5, iv p6, iv 1, iv 2, iv g2, iv g3, iv ((9 : Int32) + (p6 &&& (7 : Int32))), rv b235, iv (stF p2), iv (P2 p2 g2), iv (P3 p2 g2 g3), iv (p5 &&& (31 : Int32))] [(.int (slotF (P2 p2 g2) (2 : Int32) (stF p2) (P2 p2 g2) (P3 p2 g2 g3))), (.int (entS (gi S2 (P2 p2 g2))))]))
              refine G1 (XS.icmpNo X275.here hx rfl (hb hby at_389) rfl (teq (own_slot2 p2 g2 g3 (P2 p2 g2) (own_P2 p2 g2).1 hS0 hS1 hS2)).2) ?_
              show Gs p e below QQ T275 m 392 #[iv p1, iv p2, iv p3, iv p4, iv p5, iv p6, iv 1, iv 2, iv g2, iv g3, iv ((9 : Int32) + (p6 &&& (7 : Int32))), rv b235, iv (stF p2), iv (P2 p2 g2), iv (P3 p2 g2 g3), iv (p5 &&& (31 : Int32))] []
              refine G1 (XS.aload X275.here hx rfl (hb hby at_392) rfl rfl) ?_
              refine G1 (XS.iload X275.here hx rfl (hb hby at_394) rfl) ?_
              show Goes p e below QQ (T275.setTop (mkF m 396 #[iv p1, iv p2, iv p3, iv p4, iv p5, iv p6, iv 1, iv 2, iv g2, iv g3, iv ((9 : Int32) + (p6 &&& (7 : Int32))), rv b235, iv (stF p2), iv (P2 p2 g2), iv (P3 p2 g2 g3), iv (p5 &&& (31 : Int32))] [(.int (P3 p2 g2 g3)), (.ref b235)]))
              obtain ⟨cq276, kq276, q276a, q276b, q276c⟩ := isOf hZ e275 A235_257
              obtain ⟨_, _, ⟨T276, L276, k276, n276⟩, -, X276, ⟨Lc276, hQ276, l276, y276, z276⟩, st276⟩ := X275.virtualBack hx (y := (⟨"com/example/bindery/bindery/PartIndex", "entryAt", "(I)I"⟩ : MethodName)) (z := (⟨"com/example/bindery/bindery/PartIndex", "entryAt", "(I)I"⟩ : MethodName)) hown (mvT hZ (wI hw 24 rfl)) (mvT hZ (wI hw 25 rfl)) (notFace_of_selects (args := #[]) (mvT hZ (wI hw 27 rfl))) (mvT hZ (wI hw 27 rfl)) (mvT hZ (wI hw 26 rfl)) (by decide) (backOf (W := 0) (rmE1 l Z a0 hw [] b235 (P3 p2 g2 g3) bd kd S2 (gi S2 (P3 p2 g2 g3)) T256.heap n0 (Nat.le_trans Z0 K264.1) slots_a1 Vda1 (own_P3 p2 g2 g3).1 (HS2.2 _)) hZ (wI hw 28 rfl) (wI hw 2 rfl) (by decide) (by decide)) q276a q276c (g := (mkF m 396 #[iv p1, iv p2, iv p3, iv p4, iv p5, iv p6, iv 1, iv 2, iv g2, iv g3, iv ((9 : Int32) + (p6 &&& (7 : Int32))), rv b235, iv (stF p2), iv (P2 p2 g2), iv (P3 p2 g2 g3), iv (p5 &&& (31 : Int32))] [(.int (P3 p2 g2 g3)), (.ref b235)])) rfl (by rw [hml]; rfl) (Steps.refl _) (argsL := [(.int (P3 p2 g2 g3))]) (rest := []) (lenOf pd_1 rfl) rfl (by show 2 * 0 + _ ≤ _; exact Nat.le_of_eq rfl) (hb hby at_396) (fun _ _ => ⟨rfl, e275, (by decide : 3 + 0 ≤ _), (by decide : 52 + 0 ≤ _)⟩)
              dsimp only [Pt.U, Pt.locs, Pt.cells, Pt.slots] at X276 l276 y276 z276 st276 hQ276
              have l276 := l276.symm; have y276 := y276.symm; have z276 := z276.symm; subst l276 y276 z276
              have X276 : Stand p l e room_1 s m #[(.int p1), (.int p2), (.int p3), (.int p4), (.int p5), (.int p6)] below meth c T276 _ 3 52 := X276
              obtain ⟨rfl, M276, e276⟩ := hQ276
              have N276 := Fr.app N275 M276
              refine Goes.on (fun t k => st276.trans k) ?_
              show Goes p e below QQ (T276.setTop (mkF m 399 #[iv p1, iv p2, iv p3, iv p4, iv p5, iv p6, iv 1, iv 2, iv g2, iv g3, iv ((9 : Int32) + (p6 &&& (7 : Int32))), rv b235, iv (stF p2), iv (P2 p2 g2), iv (P3 p2 g2 g3), iv (p5 &&& (31 : Int32))] [(.int (entS (gi S2 (P3 p2 g2 g3))))]))
              refine G1 (XS.iload X276.here hx rfl (hb hby at_399) rfl) ?_
              refine G1 (XS.iload X276.here hx rfl (hb hby at_401) rfl) ?_
              refine G1 (XS.iload X276.here hx rfl (hb hby at_403) rfl) ?_
              show Gs p e below QQ T276 m 405 #[iv p1, iv p2, iv p3, iv p4, iv p5, iv p6, iv 1, iv 2, iv g2, iv g3, iv ((9 : Int32) + (p6 &&& (7 : Int32))), rv b235, iv (stF p2), iv (P2 p2 g2), iv (P3 p2 g2 g3), iv (p5 &&& (31 : Int32))] [(.int (stF p2)), (.int 2), (.int (P3 p2 g2 g3)), (.int (entS (gi S2 (P3 p2 g2 g3))))]
              refine G1 (XS.iload X276.here hx rfl (hb hby at_405) rfl) ?_
              refine G1 (XS.iload X276.here hx rfl (hb hby at_407) rfl) ?_
              show Goes p e below QQ (T276.setTop (mkF m 409 #[iv p1, iv p2, iv p3, iv p4, iv p5, iv p6, iv 1, iv 2, iv g2, iv g3, iv ((9 : Int32) + (p6 &&& (7 : Int32))), rv b235, iv (stF p2), iv (P2 p2 g2), iv (P3 p2 g2 g3), iv (p5 &&& (31 : Int32))] [(.int (P3 p2 g2 g3)), (.int (P2 p2 g2)), (.int (stF p2)), (.int 2), (.int (P3 p2 g2 g3)), (.int (entS (gi S2 (P3 p2 g2 g3))))]))
              obtain ⟨_, _, ⟨T277, L277, k277, n277⟩, -, X277, ⟨Lc277, hQ277, l277, y277, z277⟩, st277⟩ := Jvm.LawKit.callS X276 hx (y := (⟨"com/example/bindery/bindery/PartIndexEntryAtPinLaw", "slot", "(IIIII)I"⟩ : MethodName)) hown (mvT hZ (wI hw 78 rfl)) (mvT hZ (wI hw 79 rfl)) (mvT hZ (wI hw 35 rfl)) (mvT hZ (wI hw 80 rfl)) (by decide) (backOf (W := 1) (rmSl l Z a0 hw [] (P3 p2 g2 g3) (2 : Int32) (stF p2) (P2 p2 g2) (P3 p2 g2 g3) T256.heap n0 (Nat.le_trans Z0 K264.1) ) hZ (wI hw 80 rfl) (wI hw 35 rfl) (by decide) (by decide)) (g := (mkF m 409 #[iv p1, iv p2, iv p3, iv p4, iv p5, iv p6, iv 1, iv 2, iv g2, iv g3, iv ((9 : Int32) + (p6 &&& (7 : Int32))), rv b235, iv (stF p2), iv (P2 p2 g2), iv (P3 p2 g2 g3), iv (p5 &&& (31 : Int32))] [(.int (P3 p2 g2 g3)), (.int (P2 p2 g2)), (.int (stF p2)), (.int 2), (.int (P3 p2 g2 g3)), (.int (entS (gi S2 (P3 p2 g2 g3))))])) rfl (by rw [hml]; rfl) (argsL := [(.int (P3 p2 g2 g3)), (.int 2), (.int (stF p2)), (.int (P2 p2 g2)), (.int (P3 p2 g2 g3))]) (rest := [(.int (entS (gi S2 (P3 p2 g2 g3))))]) (lenOf pd_4 rfl) rfl (by show 2 * 0 + _ ≤ _; exact Nat.le_of_eq rfl) (hb hby at_409) (fun _ _ => ⟨rfl, e276, (by decide : 3 + 0 ≤ _), (by decide : 52 + 0 ≤ _)⟩)
              dsimp only [Pt.U, Pt.locs, Pt.cells, Pt.slots] at X277 l277 y277 z277 st277 hQ277
              have l277 := l277.symm; have y277 := y277.symm; have z277 := z277.symm; subst l277 y277 z277
              have X277 : Stand p l e room_1 s m #[(.int p1), (.int p2), (.int p3), (.int p4), (.int p5), (.int p6)] below meth c T277 _ 3 52 := X277
              obtain ⟨rfl, M277, e277⟩ := hQ277
              have N277 := Fr.app N276 M277
              refine Goes.on (fun t k => st277 _ k) ?_
              show Goes p e below QQ (T277.setTop (mkF m 412 #[iv p1, iv p2, iv p3, iv p4, iv p5, iv p6, iv 1, iv 2, iv g2, iv g3, iv ((9 : Int32) + (p6 &&& (7 : Int32))), rv b235, iv (stF p2), iv (P2 p2 g2), iv (P3 p2 g2 g3), iv (p5 &&& (31 : Int32))] [(.int (slotF (P3 p2 g2 g3) (2 : Int32) (stF p2) (P2 p2 g2) (P3 p2 g2 g3))), (.int (entS (gi S2 (P3 p2 g2 g3))))]))
              refine G1 (XS.icmpNo X277.here hx rfl (hb hby at_412) rfl (teq (own_slot2 p2 g2 g3 (P3 p2 g2 g3) (own_P3 p2 g2 g3).1 hS0 hS1 hS2)).2) ?_
              show Gs p e below QQ T277 m 415 #[iv p1, iv p2, iv p3, iv p4, iv p5, iv p6, iv 1, iv 2, iv g2, iv g3, iv ((9 : Int32) + (p6 &&& (7 : Int32))), rv b235, iv (stF p2), iv (P2 p2 g2), iv (P3 p2 g2 g3), iv (p5 &&& (31 : Int32))] []
              refine G1 (XS.iconst X277.here hx rfl (hb hby at_415)) ?_
              refine G1 (XS.goto X277.here hx rfl (pc0 := 416) (pc' := 420) rfl (hb hby at_416) (by decide) (by decide)) ?_
              show Goes p e below QQ (T277.setTop (mkF m 420 #[iv p1, iv p2, iv p3, iv p4, iv p5, iv p6, iv 1, iv 2, iv g2, iv g3, iv ((9 : Int32) + (p6 &&& (7 : Int32))), rv b235, iv (stF p2), iv (P2 p2 g2), iv (P3 p2 g2 g3), iv (p5 &&& (31 : Int32))] [(.int 1)]))
              exact Goes.rN X277 hx (t := .boolean) hret (by simp) hlk (hb hby at_420) hQQ ⟨rfl, N277⟩ (by decide) (by decide)
            show Goes p e below QQ (T268.setTop (mkF m 274 #[iv p1, iv p2, iv p3, iv p4, iv p5, iv p6, iv 1, iv 2, iv g2, iv g3, iv ((9 : Int32) + (p6 &&& (7 : Int32))), rv b235, iv (stF p2), iv (if (stF g2) = (stF p2) then (((stF g2) + (1 : Int32)) &&& (31 : Int32)) else (stF g2)), iv (stF g3), .unset] [(.int (stF p2)), (.int (stF g3))]))
            by_cases hb278 : (stF g3) = (stF p2)
            · refine G1 (XS.icmpYes X268.here hx rfl (pc0 := 274) (pc' := 284) rfl (hb hby at_274) rfl (teq hb278).1 (by decide) (by decide)) ?_
              show Gs p e below QQ T268 m 284 #[iv p1, iv p2, iv p3, iv p4, iv p5, iv p6, iv 1, iv 2, iv g2, iv g3, iv ((9 : Int32) + (p6 &&& (7 : Int32))), rv b235, iv (stF p2), iv (if (stF g2) = (stF p2) then (((stF g2) + (1 : Int32)) &&& (31 : Int32)) else (stF g2)), iv (stF g3), .unset] []
              refine G1 (XS.iload X268.here hx rfl (hb hby at_284) rfl) ?_
              refine G1 (XS.iconst X268.here hx rfl (hb hby at_286)) ?_
              show Gs p e below QQ T268 m 287 #[iv p1, iv p2, iv p3, iv p4, iv p5, iv p6, iv 1, iv 2, iv g2, iv g3, iv ((9 : Int32) + (p6 &&& (7 : Int32))), rv b235, iv (stF p2), iv (if (stF g2) = (stF p2) then (((stF g2) + (1 : Int32)) &&& (31 : Int32)) else (stF g2)), iv (stF g3), .unset] [(.int 1), (.int (stF g3))]
              refine G1 (XS.iadd X268.here hx rfl (hb hby at_287) rfl) ?_
              show Gs p e below QQ T268 m 288 #[iv p1, iv p2, iv p3, iv p4, iv p5, iv p6, iv 1, iv 2, iv g2, iv g3, iv ((9 : Int32) + (p6 &&& (7 : Int32))), rv b235, iv (stF p2), iv (if (stF g2) = (stF p2) then (((stF g2) + (1 : Int32)) &&& (31 : Int32)) else (stF g2)), iv (stF g3), .unset] [(.int ((stF g3) + (1 : Int32)))]
              refine G1 (XS.bipush X268.here hx rfl (hb hby at_288)) ?_
              show Gs p e below QQ T268 m 290 #[iv p1, iv p2, iv p3, iv p4, iv p5, iv p6, iv 1, iv 2, iv g2, iv g3, iv ((9 : Int32) + (p6 &&& (7 : Int32))), rv b235, iv (stF p2), iv (if (stF g2) = (stF p2) then (((stF g2) + (1 : Int32)) &&& (31 : Int32)) else (stF g2)), iv (stF g3), .unset] [(.int 31), (.int ((stF g3) + (1 : Int32)))]
              refine G1 (XS.iand X268.here hx rfl (hb hby at_290) rfl) ?_
              show Gs p e below QQ T268 m 291 #[iv p1, iv p2, iv p3, iv p4, iv p5, iv p6, iv 1, iv 2, iv g2, iv g3, iv ((9 : Int32) + (p6 &&& (7 : Int32))), rv b235, iv (stF p2), iv (if (stF g2) = (stF p2) then (((stF g2) + (1 : Int32)) &&& (31 : Int32)) else (stF g2)), iv (stF g3), .unset] [(.int (((stF g3) + (1 : Int32)) &&& (31 : Int32)))]
              refine G1 (XS.istore X268.here hx rfl (hb hby at_291) rfl (l' := #[iv p1, iv p2, iv p3, iv p4, iv p5, iv p6, iv 1, iv 2, iv g2, iv g3, iv ((9 : Int32) + (p6 &&& (7 : Int32))), rv b235, iv (stF p2), iv (if (stF g2) = (stF p2) then (((stF g2) + (1 : Int32)) &&& (31 : Int32)) else (stF g2)), iv (((stF g3) + (1 : Int32)) &&& (31 : Int32)), .unset]) rfl) ?_
              refine G1 (XS.iload X268.here hx rfl (hb hby at_293) rfl) ?_
              refine G1 (XS.iload X268.here hx rfl (hb hby at_295) rfl) ?_
              show Goes p e below QQ (T268.setTop (mkF m 297 #[iv p1, iv p2, iv p3, iv p4, iv p5, iv p6, iv 1, iv 2, iv g2, iv g3, iv ((9 : Int32) + (p6 &&& (7 : Int32))), rv b235, iv (stF p2), iv (if (stF g2) = (stF p2) then (((stF g2) + (1 : Int32)) &&& (31 : Int32)) else (stF g2)), iv (((stF g3) + (1 : Int32)) &&& (31 : Int32)), .unset] [(.int (stF p2)), (.int (((stF g3) + (1 : Int32)) &&& (31 : Int32)))]))
              by_cases hb279 : (((stF g3) + (1 : Int32)) &&& (31 : Int32)) = (stF p2)
              · refine G1 (XS.icmpYes X268.here hx rfl (pc0 := 297) (pc' := 307) rfl (hb hby at_297) rfl (teq hb279).1 (by decide) (by decide)) ?_
                show Gs p e below QQ T268 m 307 #[iv p1, iv p2, iv p3, iv p4, iv p5, iv p6, iv 1, iv 2, iv g2, iv g3, iv ((9 : Int32) + (p6 &&& (7 : Int32))), rv b235, iv (stF p2), iv (if (stF g2) = (stF p2) then (((stF g2) + (1 : Int32)) &&& (31 : Int32)) else (stF g2)), iv (((stF g3) + (1 : Int32)) &&& (31 : Int32)), .unset] []
                refine G1 (XS.iload X268.here hx rfl (hb hby at_307) rfl) ?_
                refine G1 (XS.iconst X268.here hx rfl (hb hby at_309)) ?_
                show Gs p e below QQ T268 m 310 #[iv p1, iv p2, iv p3, iv p4, iv p5, iv p6, iv 1, iv 2, iv g2, iv g3, iv ((9 : Int32) + (p6 &&& (7 : Int32))), rv b235, iv (stF p2), iv (if (stF g2) = (stF p2) then (((stF g2) + (1 : Int32)) &&& (31 : Int32)) else (stF g2)), iv (((stF g3) + (1 : Int32)) &&& (31 : Int32)), .unset] [(.int 1), (.int (((stF g3) + (1 : Int32)) &&& (31 : Int32)))]
                refine G1 (XS.iadd X268.here hx rfl (hb hby at_310) rfl) ?_
                show Gs p e below QQ T268 m 311 #[iv p1, iv p2, iv p3, iv p4, iv p5, iv p6, iv 1, iv 2, iv g2, iv g3, iv ((9 : Int32) + (p6 &&& (7 : Int32))), rv b235, iv (stF p2), iv (if (stF g2) = (stF p2) then (((stF g2) + (1 : Int32)) &&& (31 : Int32)) else (stF g2)), iv (((stF g3) + (1 : Int32)) &&& (31 : Int32)), .unset] [(.int ((((stF g3) + (1 : Int32)) &&& (31 : Int32)) + (1 : Int32)))]
                refine G1 (XS.bipush X268.here hx rfl (hb hby at_311)) ?_
                show Gs p e below QQ T268 m 313 #[iv p1, iv p2, iv p3, iv p4, iv p5, iv p6, iv 1, iv 2, iv g2, iv g3, iv ((9 : Int32) + (p6 &&& (7 : Int32))), rv b235, iv (stF p2), iv (if (stF g2) = (stF p2) then (((stF g2) + (1 : Int32)) &&& (31 : Int32)) else (stF g2)), iv (((stF g3) + (1 : Int32)) &&& (31 : Int32)), .unset] [(.int 31), (.int ((((stF g3) + (1 : Int32)) &&& (31 : Int32)) + (1 : Int32)))]
                refine G1 (XS.iand X268.here hx rfl (hb hby at_313) rfl) ?_
                show Gs p e below QQ T268 m 314 #[iv p1, iv p2, iv p3, iv p4, iv p5, iv p6, iv 1, iv 2, iv g2, iv g3, iv ((9 : Int32) + (p6 &&& (7 : Int32))), rv b235, iv (stF p2), iv (if (stF g2) = (stF p2) then (((stF g2) + (1 : Int32)) &&& (31 : Int32)) else (stF g2)), iv (((stF g3) + (1 : Int32)) &&& (31 : Int32)), .unset] [(.int (((((stF g3) + (1 : Int32)) &&& (31 : Int32)) + (1 : Int32)) &&& (31 : Int32)))]
                refine G1 (XS.istore X268.here hx rfl (hb hby at_314) rfl (l' := #[iv p1, iv p2, iv p3, iv p4, iv p5, iv p6, iv 1, iv 2, iv g2, iv g3, iv ((9 : Int32) + (p6 &&& (7 : Int32))), rv b235, iv (stF p2), iv (if (stF g2) = (stF p2) then (((stF g2) + (1 : Int32)) &&& (31 : Int32)) else (stF g2)), iv (((((stF g3) + (1 : Int32)) &&& (31 : Int32)) + (1 : Int32)) &&& (31 : Int32)), .unset]) rfl) ?_
                show Goes p e below QQ (T268.setTop (mkF m 316 #[iv p1, iv p2, iv p3, iv p4, iv p5, iv p6, iv 1, iv 2, iv g2, iv g3, iv ((9 : Int32) + (p6 &&& (7 : Int32))), rv b235, iv (stF p2), iv (if (stF g2) = (stF p2) then (((stF g2) + (1 : Int32)) &&& (31 : Int32)) else (stF g2)), iv (((((stF g3) + (1 : Int32)) &&& (31 : Int32)) + (1 : Int32)) &&& (31 : Int32)), .unset] []))
                rw [(((if_pos hb278).trans ((if_pos hb279).trans rfl)) : (if (stF g3) = (stF p2) then (if (((stF g3) + (1 : Int32)) &&& (31 : Int32)) = (stF p2) then (((((stF g3) + (1 : Int32)) &&& (31 : Int32)) + (1 : Int32)) &&& (31 : Int32)) else (if (((stF g3) + (1 : Int32)) &&& (31 : Int32)) = (if (stF g2) = (stF p2) then (((stF g2) + (1 : Int32)) &&& (31 : Int32)) else (stF g2)) then (((((stF g3) + (1 : Int32)) &&& (31 : Int32)) + (1 : Int32)) &&& (31 : Int32)) else (((stF g3) + (1 : Int32)) &&& (31 : Int32)))) else (if (stF g3) = (if (stF g2) = (stF p2) then (((stF g2) + (1 : Int32)) &&& (31 : Int32)) else (stF g2)) then (if (((stF g3) + (1 : Int32)) &&& (31 : Int32)) = (stF p2) then (((((stF g3) + (1 : Int32)) &&& (31 : Int32)) + (1 : Int32)) &&& (31 : Int32)) else (if (((stF g3) + (1 : Int32)) &&& (31 : Int32)) = (if (stF g2) = (stF p2) then (((stF g2) + (1 : Int32)) &&& (31 : Int32)) else (stF g2)) then (((((stF g3) + (1 : Int32)) &&& (31 : Int32)) + (1 : Int32)) &&& (31 : Int32)) else (((stF g3) + (1 : Int32)) &&& (31 : Int32)))) else (stF g3))) = (((((stF g3) + (1 : Int32)) &&& (31 : Int32)) + (1 : Int32)) &&& (31 : Int32)))] at J269
                exact J269 _ _ X268 e268 N268
              · refine G1 (XS.icmpNo X268.here hx rfl (hb hby at_297) rfl (feq hb279).1) ?_
                show Gs p e below QQ T268 m 300 #[iv p1, iv p2, iv p3, iv p4, iv p5, iv p6, iv 1, iv 2, iv g2, iv g3, iv ((9 : Int32) + (p6 &&& (7 : Int32))), rv b235, iv (stF p2), iv (if (stF g2) = (stF p2) then (((stF g2) + (1 : Int32)) &&& (31 : Int32)) else (stF g2)), iv (((stF g3) + (1 : Int32)) &&& (31 : Int32)), .unset] []
                refine G1 (XS.iload X268.here hx rfl (hb hby at_300) rfl) ?_
                refine G1 (XS.iload X268.here hx rfl (hb hby at_302) rfl) ?_
                show Goes p e below QQ (T268.setTop (mkF m 304 #[iv p1, iv p2, iv p3, iv p4, iv p5, iv p6, iv 1, iv 2, iv g2, iv g3, iv ((9 : Int32) + (p6 &&& (7 : Int32))), rv b235, iv (stF p2), iv (if (stF g2) = (stF p2) then (((stF g2) + (1 : Int32)) &&& (31 : Int32)) else (stF g2)), iv (((stF g3) + (1 : Int32)) &&& (31 : Int32)), .unset] [(.int (if (stF g2) = (stF p2) then (((stF g2) + (1 : Int32)) &&& (31 : Int32)) else (stF g2))), (.int (((stF g3) + (1 : Int32)) &&& (31 : Int32)))]))
                by_cases hb280 : (((stF g3) + (1 : Int32)) &&& (31 : Int32)) = (if (stF g2) = (stF p2) then (((stF g2) + (1 : Int32)) &&& (31 : Int32)) else (stF g2))
                · refine G1 (XS.icmpNo X268.here hx rfl (hb hby at_304) rfl (teq hb280).2) ?_
                  show Gs p e below QQ T268 m 307 #[iv p1, iv p2, iv p3, iv p4, iv p5, iv p6, iv 1, iv 2, iv g2, iv g3, iv ((9 : Int32) + (p6 &&& (7 : Int32))), rv b235, iv (stF p2), iv (if (stF g2) = (stF p2) then (((stF g2) + (1 : Int32)) &&& (31 : Int32)) else (stF g2)), iv (((stF g3) + (1 : Int32)) &&& (31 : Int32)), .unset] []
                  refine G1 (XS.iload X268.here hx rfl (hb hby at_307) rfl) ?_
                  refine G1 (XS.iconst X268.here hx rfl (hb hby at_309)) ?_
                  show Gs p e below QQ T268 m 310 #[iv p1, iv p2, iv p3, iv p4, iv p5, iv p6, iv 1, iv 2, iv g2, iv g3, iv ((9 : Int32) + (p6 &&& (7 : Int32))), rv b235, iv (stF p2), iv (if (stF g2) = (stF p2) then (((stF g2) + (1 : Int32)) &&& (31 : Int32)) else (stF g2)), iv (((stF g3) + (1 : Int32)) &&& (31 : Int32)), .unset] [(.int 1), (.int (((stF g3) + (1 : Int32)) &&& (31 : Int32)))]
                  refine G1 (XS.iadd X268.here hx rfl (hb hby at_310) rfl) ?_
                  show Gs p e below QQ T268 m 311 #[iv p1, iv p2, iv p3, iv p4, iv p5, iv p6, iv 1, iv 2, iv g2, iv g3, iv ((9 : Int32) + (p6 &&& (7 : Int32))), rv b235, iv (stF p2), iv (if (stF g2) = (stF p2) then (((stF g2) + (1 : Int32)) &&& (31 : Int32)) else (stF g2)), iv (((stF g3) + (1 : Int32)) &&& (31 : Int32)), .unset] [(.int ((((stF g3) + (1 : Int32)) &&& (31 : Int32)) + (1 : Int32)))]
                  refine G1 (XS.bipush X268.here hx rfl (hb hby at_311)) ?_
                  show Gs p e below QQ T268 m 313 #[iv p1, iv p2, iv p3, iv p4, iv p5, iv p6, iv 1, iv 2, iv g2, iv g3, iv ((9 : Int32) + (p6 &&& (7 : Int32))), rv b235, iv (stF p2), iv (if (stF g2) = (stF p2) then (((stF g2) + (1 : Int32)) &&& (31 : Int32)) else (stF g2)), iv (((stF g3) + (1 : Int32)) &&& (31 : Int32)), .unset] [(.int 31), (.int ((((stF g3) + (1 : Int32)) &&& (31 : Int32)) + (1 : Int32)))]
                  refine G1 (XS.iand X268.here hx rfl (hb hby at_313) rfl) ?_
                  show Gs p e below QQ T268 m 314 #[iv p1, iv p2, iv p3, iv p4, iv p5, iv p6, iv 1, iv 2, iv g2, iv g3, iv ((9 : Int32) + (p6 &&& (7 : Int32))), rv b235, iv (stF p2), iv (if (stF g2) = (stF p2) then (((stF g2) + (1 : Int32)) &&& (31 : Int32)) else (stF g2)), iv (((stF g3) + (1 : Int32)) &&& (31 : Int32)), .unset] [(.int (((((stF g3) + (1 : Int32)) &&& (31 : Int32)) + (1 : Int32)) &&& (31 : Int32)))]
                  refine G1 (XS.istore X268.here hx rfl (hb hby at_314) rfl (l' := #[iv p1, iv p2, iv p3, iv p4, iv p5, iv p6, iv 1, iv 2, iv g2, iv g3, iv ((9 : Int32) + (p6 &&& (7 : Int32))), rv b235, iv (stF p2), iv (if (stF g2) = (stF p2) then (((stF g2) + (1 : Int32)) &&& (31 : Int32)) else (stF g2)), iv (((((stF g3) + (1 : Int32)) &&& (31 : Int32)) + (1 : Int32)) &&& (31 : Int32)), .unset]) rfl) ?_
                  show Goes p e below QQ (T268.setTop (mkF m 316 #[iv p1, iv p2, iv p3, iv p4, iv p5, iv p6, iv 1, iv 2, iv g2, iv g3, iv ((9 : Int32) + (p6 &&& (7 : Int32))), rv b235, iv (stF p2), iv (if (stF g2) = (stF p2) then (((stF g2) + (1 : Int32)) &&& (31 : Int32)) else (stF g2)), iv (((((stF g3) + (1 : Int32)) &&& (31 : Int32)) + (1 : Int32)) &&& (31 : Int32)), .unset] []))
                  rw [(((if_pos hb278).trans ((if_neg hb279).trans ((if_pos hb280).trans rfl))) : (if (stF g3) = (stF p2) then (if (((stF g3) + (1 : Int32)) &&& (31 : Int32)) = (stF p2) then (((((stF g3) + (1 : Int32)) &&& (31 : Int32)) + (1 : Int32)) &&& (31 : Int32)) else (if (((stF g3) + (1 : Int32)) &&& (31 : Int32)) = (if (stF g2) = (stF p2) then (((stF g2) + (1 : Int32)) &&& (31 : Int32)) else (stF g2)) then (((((stF g3) + (1 : Int32)) &&& (31 : Int32)) + (1 : Int32)) &&& (31 : Int32)) else (((stF g3) + (1 : Int32)) &&& (31 : Int32)))) else (if (stF g3) = (if (stF g2) = (stF p2) then (((stF g2) + (1 : Int32)) &&& (31 : Int32)) else (stF g2)) then (if (((stF g3) + (1 : Int32)) &&& (31 : Int32)) = (stF p2) then (((((stF g3) + (1 : Int32)) &&& (31 : Int32)) + (1 : Int32)) &&& (31 : Int32)) else (if (((stF g3) + (1 : Int32)) &&& (31 : Int32)) = (if (stF g2) = (stF p2) then (((stF g2) + (1 : Int32)) &&& (31 : Int32)) else (stF g2)) then (((((stF g3) + (1 : Int32)) &&& (31 : Int32)) + (1 : Int32)) &&& (31 : Int32)) else (((stF g3) + (1 : Int32)) &&& (31 : Int32)))) else (stF g3))) = (((((stF g3) + (1 : Int32)) &&& (31 : Int32)) + (1 : Int32)) &&& (31 : Int32)))] at J269
                  exact J269 _ _ X268 e268 N268
                · refine G1 (XS.icmpYes X268.here hx rfl (pc0 := 304) (pc' := 316) rfl (hb hby at_304) rfl (feq hb280).2 (by decide) (by decide)) ?_
                  show Goes p e below QQ (T268.setTop (mkF m 316 #[iv p1, iv p2, iv p3, iv p4, iv p5, iv p6, iv 1, iv 2, iv g2, iv g3, iv ((9 : Int32) + (p6 &&& (7 : Int32))), rv b235, iv (stF p2), iv (if (stF g2) = (stF p2) then (((stF g2) + (1 : Int32)) &&& (31 : Int32)) else (stF g2)), iv (((stF g3) + (1 : Int32)) &&& (31 : Int32)), .unset] []))
                  rw [(((if_pos hb278).trans ((if_neg hb279).trans ((if_neg hb280).trans rfl))) : (if (stF g3) = (stF p2) then (if (((stF g3) + (1 : Int32)) &&& (31 : Int32)) = (stF p2) then (((((stF g3) + (1 : Int32)) &&& (31 : Int32)) + (1 : Int32)) &&& (31 : Int32)) else (if (((stF g3) + (1 : Int32)) &&& (31 : Int32)) = (if (stF g2) = (stF p2) then (((stF g2) + (1 : Int32)) &&& (31 : Int32)) else (stF g2)) then (((((stF g3) + (1 : Int32)) &&& (31 : Int32)) + (1 : Int32)) &&& (31 : Int32)) else (((stF g3) + (1 : Int32)) &&& (31 : Int32)))) else (if (stF g3) = (if (stF g2) = (stF p2) then (((stF g2) + (1 : Int32)) &&& (31 : Int32)) else (stF g2)) then (if (((stF g3) + (1 : Int32)) &&& (31 : Int32)) = (stF p2) then (((((stF g3) + (1 : Int32)) &&& (31 : Int32)) + (1 : Int32)) &&& (31 : Int32)) else (if (((stF g3) + (1 : Int32)) &&& (31 : Int32)) = (if (stF g2) = (stF p2) then (((stF g2) + (1 : Int32)) &&& (31 : Int32)) else (stF g2)) then (((((stF g3) + (1 : Int32)) &&& (31 : Int32)) + (1 : Int32)) &&& (31 : Int32)) else (((stF g3) + (1 : Int32)) &&& (31 : Int32)))) else (stF g3))) = (((stF g3) + (1 : Int32)) &&& (31 : Int32)))] at J269
                  exact J269 _ _ X268 e268 N268
            · refine G1 (XS.icmpNo X268.here hx rfl (hb hby at_274) rfl (feq hb278).1) ?_
              show Gs p e below QQ T268 m 277 #[iv p1, iv p2, iv p3, iv p4, iv p5, iv p6, iv 1, iv 2, iv g2, iv g3, iv ((9 : Int32) + (p6 &&& (7 : Int32))), rv b235, iv (stF p2), iv (if (stF g2) = (stF p2) then (((stF g2) + (1 : Int32)) &&& (31 : Int32)) else (stF g2)), iv (stF g3), .unset] []
              refine G1 (XS.iload X268.here hx rfl (hb hby at_277) rfl) ?_
              refine G1 (XS.iload X268.here hx rfl (hb hby at_279) rfl) ?_
              show Goes p e below QQ (T268.setTop (mkF m 281 #[iv p1, iv p2, iv p3, iv p4, iv p5, iv p6, iv 1, iv 2, iv g2, iv g3, iv ((9 : Int32) + (p6 &&& (7 : Int32))), rv b235, iv (stF p2), iv (if (stF g2) = (stF p2) then (((stF g2) + (1 : Int32)) &&& (31 : Int32)) else (stF g2)), iv (stF g3), .unset] [(.int (if (stF g2) = (stF p2) then (((stF g2) + (1 : Int32)) &&& (31 : Int32)) else (stF g2))), (.int (stF g3))]))
              by_cases hb281 : (stF g3) = (if (stF g2) = (stF p2) then (((stF g2) + (1 : Int32)) &&& (31 : Int32)) else (stF g2))
              · refine G1 (XS.icmpNo X268.here hx rfl (hb hby at_281) rfl (teq hb281).2) ?_
                show Gs p e below QQ T268 m 284 #[iv p1, iv p2, iv p3, iv p4, iv p5, iv p6, iv 1, iv 2, iv g2, iv g3, iv ((9 : Int32) + (p6 &&& (7 : Int32))), rv b235, iv (stF p2), iv (if (stF g2) = (stF p2) then (((stF g2) + (1 : Int32)) &&& (31 : Int32)) else (stF g2)), iv (stF g3), .unset] []
                refine G1 (XS.iload X268.here hx rfl (hb hby at_284) rfl) ?_
                refine G1 (XS.iconst X268.here hx rfl (hb hby at_286)) ?_
                show Gs p e below QQ T268 m 287 #[iv p1, iv p2, iv p3, iv p4, iv p5, iv p6, iv 1, iv 2, iv g2, iv g3, iv ((9 : Int32) + (p6 &&& (7 : Int32))), rv b235, iv (stF p2), iv (if (stF g2) = (stF p2) then (((stF g2) + (1 : Int32)) &&& (31 : Int32)) else (stF g2)), iv (stF g3), .unset] [(.int 1), (.int (stF g3))]
                refine G1 (XS.iadd X268.here hx rfl (hb hby at_287) rfl) ?_
                show Gs p e below QQ T268 m 288 #[iv p1, iv p2, iv p3, iv p4, iv p5, iv p6, iv 1, iv 2, iv g2, iv g3, iv ((9 : Int32) + (p6 &&& (7 : Int32))), rv b235, iv (stF p2), iv (if (stF g2) = (stF p2) then (((stF g2) + (1 : Int32)) &&& (31 : Int32)) else (stF g2)), iv (stF g3), .unset] [(.int ((stF g3) + (1 : Int32)))]
                refine G1 (XS.bipush X268.here hx rfl (hb hby at_288)) ?_
                show Gs p e below QQ T268 m 290 #[iv p1, iv p2, iv p3, iv p4, iv p5, iv p6, iv 1, iv 2, iv g2, iv g3, iv ((9 : Int32) + (p6 &&& (7 : Int32))), rv b235, iv (stF p2), iv (if (stF g2) = (stF p2) then (((stF g2) + (1 : Int32)) &&& (31 : Int32)) else (stF g2)), iv (stF g3), .unset] [(.int 31), (.int ((stF g3) + (1 : Int32)))]
                refine G1 (XS.iand X268.here hx rfl (hb hby at_290) rfl) ?_
                show Gs p e below QQ T268 m 291 #[iv p1, iv p2, iv p3, iv p4, iv p5, iv p6, iv 1, iv 2, iv g2, iv g3, iv ((9 : Int32) + (p6 &&& (7 : Int32))), rv b235, iv (stF p2), iv (if (stF g2) = (stF p2) then (((stF g2) + (1 : Int32)) &&& (31 : Int32)) else (stF g2)), iv (stF g3), .unset] [(.int (((stF g3) + (1 : Int32)) &&& (31 : Int32)))]
                refine G1 (XS.istore X268.here hx rfl (hb hby at_291) rfl (l' := #[iv p1, iv p2, iv p3, iv p4, iv p5, iv p6, iv 1, iv 2, iv g2, iv g3, iv ((9 : Int32) + (p6 &&& (7 : Int32))), rv b235, iv (stF p2), iv (if (stF g2) = (stF p2) then (((stF g2) + (1 : Int32)) &&& (31 : Int32)) else (stF g2)), iv (((stF g3) + (1 : Int32)) &&& (31 : Int32)), .unset]) rfl) ?_
                refine G1 (XS.iload X268.here hx rfl (hb hby at_293) rfl) ?_
                refine G1 (XS.iload X268.here hx rfl (hb hby at_295) rfl) ?_
                show Goes p e below QQ (T268.setTop (mkF m 297 #[iv p1, iv p2, iv p3, iv p4, iv p5, iv p6, iv 1, iv 2, iv g2, iv g3, iv ((9 : Int32) + (p6 &&& (7 : Int32))), rv b235, iv (stF p2), iv (if (stF g2) = (stF p2) then (((stF g2) + (1 : Int32)) &&& (31 : Int32)) else (stF g2)), iv (((stF g3) + (1 : Int32)) &&& (31 : Int32)), .unset] [(.int (stF p2)), (.int (((stF g3) + (1 : Int32)) &&& (31 : Int32)))]))
                by_cases hb282 : (((stF g3) + (1 : Int32)) &&& (31 : Int32)) = (stF p2)
                · refine G1 (XS.icmpYes X268.here hx rfl (pc0 := 297) (pc' := 307) rfl (hb hby at_297) rfl (teq hb282).1 (by decide) (by decide)) ?_
                  show Gs p e below QQ T268 m 307 #[iv p1, iv p2, iv p3, iv p4, iv p5, iv p6, iv 1, iv 2, iv g2, iv g3, iv ((9 : Int32) + (p6 &&& (7 : Int32))), rv b235, iv (stF p2), iv (if (stF g2) = (stF p2) then (((stF g2) + (1 : Int32)) &&& (31 : Int32)) else (stF g2)), iv (((stF g3) + (1 : Int32)) &&& (31 : Int32)), .unset] []
                  refine G1 (XS.iload X268.here hx rfl (hb hby at_307) rfl) ?_
                  refine G1 (XS.iconst X268.here hx rfl (hb hby at_309)) ?_
                  show Gs p e below QQ T268 m 310 #[iv p1, iv p2, iv p3, iv p4, iv p5, iv p6, iv 1, iv 2, iv g2, iv g3, iv ((9 : Int32) + (p6 &&& (7 : Int32))), rv b235, iv (stF p2), iv (if (stF g2) = (stF p2) then (((stF g2) + (1 : Int32)) &&& (31 : Int32)) else (stF g2)), iv (((stF g3) + (1 : Int32)) &&& (31 : Int32)), .unset] [(.int 1), (.int (((stF g3) + (1 : Int32)) &&& (31 : Int32)))]
                  refine G1 (XS.iadd X268.here hx rfl (hb hby at_310) rfl) ?_
                  show Gs p e below QQ T268 m 311 #[iv p1, iv p2, iv p3, iv p4, iv p5, iv p6, iv 1, iv 2, iv g2, iv g3, iv ((9 : Int32) + (p6 &&& (7 : Int32))), rv b235, iv (stF p2), iv (if (stF g2) = (stF p2) then (((stF g2) + (1 : Int32)) &&& (31 : Int32)) else (stF g2)), iv (((stF g3) + (1 : Int32)) &&& (31 : Int32)), .unset] [(.int ((((stF g3) + (1 : Int32)) &&& (31 : Int32)) + (1 : Int32)))]
                  refine G1 (XS.bipush X268.here hx rfl (hb hby at_311)) ?_
                  show Gs p e below QQ T268 m 313 #[iv p1, iv p2, iv p3, iv p4, iv p5, iv p6, iv 1, iv 2, iv g2, iv g3, iv ((9 : Int32) + (p6 &&& (7 : Int32))), rv b235, iv (stF p2), iv (if (stF g2) = (stF p2) then (((stF g2) + (1 : Int32)) &&& (31 : Int32)) else (stF g2)), iv (((stF g3) + (1 : Int32)) &&& (31 : Int32)), .unset] [(.int 31), (.int ((((stF g3) + (1 : Int32)) &&& (31 : Int32)) + (1 : Int32)))]
                  refine G1 (XS.iand X268.here hx rfl (hb hby at_313) rfl) ?_
                  show Gs p e below QQ T268 m 314 #[iv p1, iv p2, iv p3, iv p4, iv p5, iv p6, iv 1, iv 2, iv g2, iv g3, iv ((9 : Int32) + (p6 &&& (7 : Int32))), rv b235, iv (stF p2), iv (if (stF g2) = (stF p2) then (((stF g2) + (1 : Int32)) &&& (31 : Int32)) else (stF g2)), iv (((stF g3) + (1 : Int32)) &&& (31 : Int32)), .unset] [(.int (((((stF g3) + (1 : Int32)) &&& (31 : Int32)) + (1 : Int32)) &&& (31 : Int32)))]
                  refine G1 (XS.istore X268.here hx rfl (hb hby at_314) rfl (l' := #[iv p1, iv p2, iv p3, iv p4, iv p5, iv p6, iv 1, iv 2, iv g2, iv g3, iv ((9 : Int32) + (p6 &&& (7 : Int32))), rv b235, iv (stF p2), iv (if (stF g2) = (stF p2) then (((stF g2) + (1 : Int32)) &&& (31 : Int32)) else (stF g2)), iv (((((stF g3) + (1 : Int32)) &&& (31 : Int32)) + (1 : Int32)) &&& (31 : Int32)), .unset]) rfl) ?_
                  show Goes p e below QQ (T268.setTop (mkF m 316 #[iv p1, iv p2, iv p3, iv p4, iv p5, iv p6, iv 1, iv 2, iv g2, iv g3, iv ((9 : Int32) + (p6 &&& (7 : Int32))), rv b235, iv (stF p2), iv (if (stF g2) = (stF p2) then (((stF g2) + (1 : Int32)) &&& (31 : Int32)) else (stF g2)), iv (((((stF g3) + (1 : Int32)) &&& (31 : Int32)) + (1 : Int32)) &&& (31 : Int32)), .unset] []))
                  rw [(((if_neg hb278).trans ((if_pos hb281).trans ((if_pos hb282).trans rfl))) : (if (stF g3) = (stF p2) then (if (((stF g3) + (1 : Int32)) &&& (31 : Int32)) = (stF p2) then (((((stF g3) + (1 : Int32)) &&& (31 : Int32)) + (1 : Int32)) &&& (31 : Int32)) else (if (((stF g3) + (1 : Int32)) &&& (31 : Int32)) = (if (stF g2) = (stF p2) then (((stF g2) + (1 : Int32)) &&& (31 : Int32)) else (stF g2)) then (((((stF g3) + (1 : Int32)) &&& (31 : Int32)) + (1 : Int32)) &&& (31 : Int32)) else (((stF g3) + (1 : Int32)) &&& (31 : Int32)))) else (if (stF g3) = (if (stF g2) = (stF p2) then (((stF g2) + (1 : Int32)) &&& (31 : Int32)) else (stF g2)) then (if (((stF g3) + (1 : Int32)) &&& (31 : Int32)) = (stF p2) then (((((stF g3) + (1 : Int32)) &&& (31 : Int32)) + (1 : Int32)) &&& (31 : Int32)) else (if (((stF g3) + (1 : Int32)) &&& (31 : Int32)) = (if (stF g2) = (stF p2) then (((stF g2) + (1 : Int32)) &&& (31 : Int32)) else (stF g2)) then (((((stF g3) + (1 : Int32)) &&& (31 : Int32)) + (1 : Int32)) &&& (31 : Int32)) else (((stF g3) + (1 : Int32)) &&& (31 : Int32)))) else (stF g3))) = (((((stF g3) + (1 : Int32)) &&& (31 : Int32)) + (1 : Int32)) &&& (31 : Int32)))] at J269
                  exact J269 _ _ X268 e268 N268
                · refine G1 (XS.icmpNo X268.here hx rfl (hb hby at_297) rfl (feq hb282).1) ?_
                  show Gs p e below QQ T268 m 300 #[iv p1, iv p2, iv p3, iv p4, iv p5, iv p6, iv 1, iv 2, iv g2, iv g3, iv ((9 : Int32) + (p6 &&& (7 : Int32))), rv b235, iv (stF p2), iv (if (stF g2) = (stF p2) then (((stF g2) + (1 : Int32)) &&& (31 : Int32)) else (stF g2)), iv (((stF g3) + (1 : Int32)) &&& (31 : Int32)), .unset] []
                  refine G1 (XS.iload X268.here hx rfl (hb hby at_300) rfl) ?_
                  refine G1 (XS.iload X268.here hx rfl (hb hby at_302) rfl) ?_
                  show Goes p e below QQ (T268.setTop (mkF m 304 #[iv p1, iv p2, iv p3, iv p4, iv p5, iv p6, iv 1, iv 2, iv g2, iv g3, iv ((9 : Int32) + (p6 &&& (7 : Int32))), rv b235, iv (stF p2), iv (if (stF g2) = (stF p2) then (((stF g2) + (1 : Int32)) &&& (31 : Int32)) else (stF g2)), iv (((stF g3) + (1 : Int32)) &&& (31 : Int32)), .unset] [(.int (if (stF g2) = (stF p2) then (((stF g2) + (1 : Int32)) &&& (31 : Int32)) else (stF g2))), (.int (((stF g3) + (1 : Int32)) &&& (31 : Int32)))]))
                  by_cases hb283 : (((stF g3) + (1 : Int32)) &&& (31 : Int32)) = (if (stF g2) = (stF p2) then (((stF g2) + (1 : Int32)) &&& (31 : Int32)) else (stF g2))
                  · refine G1 (XS.icmpNo X268.here hx rfl (hb hby at_304) rfl (teq hb283).2) ?_
                    show Gs p e below QQ T268 m 307 #[iv p1, iv p2, iv p3, iv p4, iv p5, iv p6, iv 1, iv 2, iv g2, iv g3, iv ((9 : Int32) + (p6 &&& (7 : Int32))), rv b235, iv (stF p2), iv (if (stF g2) = (stF p2) then (((stF g2) + (1 : Int32)) &&& (31 : Int32)) else (stF g2)), iv (((stF g3) + (1 : Int32)) &&& (31 : Int32)), .unset] []
                    refine G1 (XS.iload X268.here hx rfl (hb hby at_307) rfl) ?_
                    refine G1 (XS.iconst X268.here hx rfl (hb hby at_309)) ?_
                    show Gs p e below QQ T268 m 310 #[iv p1, iv p2, iv p3, iv p4, iv p5, iv p6, iv 1, iv 2, iv g2, iv g3, iv ((9 : Int32) + (p6 &&& (7 : Int32))), rv b235, iv (stF p2), iv (if (stF g2) = (stF p2) then (((stF g2) + (1 : Int32)) &&& (31 : Int32)) else (stF g2)), iv (((stF g3) + (1 : Int32)) &&& (31 : Int32)), .unset] [(.int 1), (.int (((stF g3) + (1 : Int32)) &&& (31 : Int32)))]
                    refine G1 (XS.iadd X268.here hx rfl (hb hby at_310) rfl) ?_
                    show Gs p e below QQ T268 m 311 #[iv p1, iv p2, iv p3, iv p4, iv p5, iv p6, iv 1, iv 2, iv g2, iv g3, iv ((9 : Int32) + (p6 &&& (7 : Int32))), rv b235, iv (stF p2), iv (if (stF g2) = (stF p2) then (((stF g2) + (1 : Int32)) &&& (31 : Int32)) else (stF g2)), iv (((stF g3) + (1 : Int32)) &&& (31 : Int32)), .unset] [(.int ((((stF g3) + (1 : Int32)) &&& (31 : Int32)) + (1 : Int32)))]
                    refine G1 (XS.bipush X268.here hx rfl (hb hby at_311)) ?_
                    show Gs p e below QQ T268 m 313 #[iv p1, iv p2, iv p3, iv p4, iv p5, iv p6, iv 1, iv 2, iv g2, iv g3, iv ((9 : Int32) + (p6 &&& (7 : Int32))), rv b235, iv (stF p2), iv (if (stF g2) = (stF p2) then (((stF g2) + (1 : Int32)) &&& (31 : Int32)) else (stF g2)), iv (((stF g3) + (1 : Int32)) &&& (31 : Int32)), .unset] [(.int 31), (.int ((((stF g3) + (1 : Int32)) &&& (31 : Int32)) + (1 : Int32)))]
                    refine G1 (XS.iand X268.here hx rfl (hb hby at_313) rfl) ?_
                    show Gs p e below QQ T268 m 314 #[iv p1, iv p2, iv p3, iv p4, iv p5, iv p6, iv 1, iv 2, iv g2, iv g3, iv ((9 : Int32) + (p6 &&& (7 : Int32))), rv b235, iv (stF p2), iv (if (stF g2) = (stF p2) then (((stF g2) + (1 : Int32)) &&& (31 : Int32)) else (stF g2)), iv (((stF g3) + (1 : Int32)) &&& (31 : Int32)), .unset] [(.int (((((stF g3) + (1 : Int32)) &&& (31 : Int32)) + (1 : Int32)) &&& (31 : Int32)))]
                    refine G1 (XS.istore X268.here hx rfl (hb hby at_314) rfl (l' := #[iv p1, iv p2, iv p3, iv p4, iv p5, iv p6, iv 1, iv 2, iv g2, iv g3, iv ((9 : Int32) + (p6 &&& (7 : Int32))), rv b235, iv (stF p2), iv (if (stF g2) = (stF p2) then (((stF g2) + (1 : Int32)) &&& (31 : Int32)) else (stF g2)), iv (((((stF g3) + (1 : Int32)) &&& (31 : Int32)) + (1 : Int32)) &&& (31 : Int32)), .unset]) rfl) ?_
                    show Goes p e below QQ (T268.setTop (mkF m 316 #[iv p1, iv p2, iv p3, iv p4, iv p5, iv p6, iv 1, iv 2, iv g2, iv g3, iv ((9 : Int32) + (p6 &&& (7 : Int32))), rv b235, iv (stF p2), iv (if (stF g2) = (stF p2) then (((stF g2) + (1 : Int32)) &&& (31 : Int32)) else (stF g2)), iv (((((stF g3) + (1 : Int32)) &&& (31 : Int32)) + (1 : Int32)) &&& (31 : Int32)), .unset] []))
                    rw [(((if_neg hb278).trans ((if_pos hb281).trans ((if_neg hb282).trans ((if_pos hb283).trans rfl)))) : (if (stF g3) = (stF p2) then (if (((stF g3) + (1 : Int32)) &&& (31 : Int32)) = (stF p2) then (((((stF g3) + (1 : Int32)) &&& (31 : Int32)) + (1 : Int32)) &&& (31 : Int32)) else (if (((stF g3) + (1 : Int32)) &&& (31 : Int32)) = (if (stF g2) = (stF p2) then (((stF g2) + (1 : Int32)) &&& (31 : Int32)) else (stF g2)) then (((((stF g3) + (1 : Int32)) &&& (31 : Int32)) + (1 : Int32)) &&& (31 : Int32)) else (((stF g3) + (1 : Int32)) &&& (31 : Int32)))) else (if (stF g3) = (if (stF g2) = (stF p2) then (((stF g2) + (1 : Int32)) &&& (31 : Int32)) else (stF g2)) then (if (((stF g3) + (1 : Int32)) &&& (31 : Int32)) = (stF p2) then (((((stF g3) + (1 : Int32)) &&& (31 : Int32)) + (1 : Int32)) &&& (31 : Int32)) else (if (((stF g3) + (1 : Int32)) &&& (31 : Int32)) = (if (stF g2) = (stF p2) then (((stF g2) + (1 : Int32)) &&& (31 : Int32)) else (stF g2)) then (((((stF g3) + (1 : Int32)) &&& (31 : Int32)) + (1 : Int32)) &&& (31 : Int32)) else (((stF g3) + (1 : Int32)) &&& (31 : Int32)))) else (stF g3))) = (((((stF g3) + (1 : Int32)) &&& (31 : Int32)) + (1 : Int32)) &&& (31 : Int32)))] at J269
                    exact J269 _ _ X268 e268 N268
                  · refine G1 (XS.icmpYes X268.here hx rfl (pc0 := 304) (pc' := 316) rfl (hb hby at_304) rfl (feq hb283).2 (by decide) (by decide)) ?_
                    show Goes p e below QQ (T268.setTop (mkF m 316 #[iv p1, iv p2, iv p3, iv p4, iv p5, iv p6, iv 1, iv 2, iv g2, iv g3, iv ((9 : Int32) + (p6 &&& (7 : Int32))), rv b235, iv (stF p2), iv (if (stF g2) = (stF p2) then (((stF g2) + (1 : Int32)) &&& (31 : Int32)) else (stF g2)), iv (((stF g3) + (1 : Int32)) &&& (31 : Int32)), .unset] []))
                    rw [(((if_neg hb278).trans ((if_pos hb281).trans ((if_neg hb282).trans ((if_neg hb283).trans rfl)))) : (if (stF g3) = (stF p2) then (if (((stF g3) + (1 : Int32)) &&& (31 : Int32)) = (stF p2) then (((((stF g3) + (1 : Int32)) &&& (31 : Int32)) + (1 : Int32)) &&& (31 : Int32)) else (if (((stF g3) + (1 : Int32)) &&& (31 : Int32)) = (if (stF g2) = (stF p2) then (((stF g2) + (1 : Int32)) &&& (31 : Int32)) else (stF g2)) then (((((stF g3) + (1 : Int32)) &&& (31 : Int32)) + (1 : Int32)) &&& (31 : Int32)) else (((stF g3) + (1 : Int32)) &&& (31 : Int32)))) else (if (stF g3) = (if (stF g2) = (stF p2) then (((stF g2) + (1 : Int32)) &&& (31 : Int32)) else (stF g2)) then (if (((stF g3) + (1 : Int32)) &&& (31 : Int32)) = (stF p2) then (((((stF g3) + (1 : Int32)) &&& (31 : Int32)) + (1 : Int32)) &&& (31 : Int32)) else (if (((stF g3) + (1 : Int32)) &&& (31 : Int32)) = (if (stF g2) = (stF p2) then (((stF g2) + (1 : Int32)) &&& (31 : Int32)) else (stF g2)) then (((((stF g3) + (1 : Int32)) &&& (31 : Int32)) + (1 : Int32)) &&& (31 : Int32)) else (((stF g3) + (1 : Int32)) &&& (31 : Int32)))) else (stF g3))) = (((stF g3) + (1 : Int32)) &&& (31 : Int32)))] at J269
                    exact J269 _ _ X268 e268 N268
              · refine G1 (XS.icmpYes X268.here hx rfl (pc0 := 281) (pc' := 316) rfl (hb hby at_281) rfl (feq hb281).2 (by decide) (by decide)) ?_
                show Goes p e below QQ (T268.setTop (mkF m 316 #[iv p1, iv p2, iv p3, iv p4, iv p5, iv p6, iv 1, iv 2, iv g2, iv g3, iv ((9 : Int32) + (p6 &&& (7 : Int32))), rv b235, iv (stF p2), iv (if (stF g2) = (stF p2) then (((stF g2) + (1 : Int32)) &&& (31 : Int32)) else (stF g2)), iv (stF g3), .unset] []))
                rw [(((if_neg hb278).trans ((if_neg hb281).trans rfl)) : (if (stF g3) = (stF p2) then (if (((stF g3) + (1 : Int32)) &&& (31 : Int32)) = (stF p2) then (((((stF g3) + (1 : Int32)) &&& (31 : Int32)) + (1 : Int32)) &&& (31 : Int32)) else (if (((stF g3) + (1 : Int32)) &&& (31 : Int32)) = (if (stF g2) = (stF p2) then (((stF g2) + (1 : Int32)) &&& (31 : Int32)) else (stF g2)) then (((((stF g3) + (1 : Int32)) &&& (31 : Int32)) + (1 : Int32)) &&& (31 : Int32)) else (((stF g3) + (1 : Int32)) &&& (31 : Int32)))) else (if (stF g3) = (if (stF g2) = (stF p2) then (((stF g2) + (1 : Int32)) &&& (31 : Int32)) else (stF g2)) then (if (((stF g3) + (1 : Int32)) &&& (31 : Int32)) = (stF p2) then (((((stF g3) + (1 : Int32)) &&& (31 : Int32)) + (1 : Int32)) &&& (31 : Int32)) else (if (((stF g3) + (1 : Int32)) &&& (31 : Int32)) = (if (stF g2) = (stF p2) then (((stF g2) + (1 : Int32)) &&& (31 : Int32)) else (stF g2)) then (((((stF g3) + (1 : Int32)) &&& (31 : Int32)) + (1 : Int32)) &&& (31 : Int32)) else (((stF g3) + (1 : Int32)) &&& (31 : Int32)))) else (stF g3))) = (stF g3))] at J269
                exact J269 _ _ X268 e268 N268
          show Goes p e below QQ (T266.setTop (mkF m 249 #[iv p1, iv p2, iv p3, iv p4, iv p5, iv p6, iv 1, iv 2, iv g2, iv g3, iv ((9 : Int32) + (p6 &&& (7 : Int32))), rv b235, iv (stF p2), iv (stF g2), .unset, .unset] [(.int (stF p2)), (.int (stF g2))]))
          by_cases hb284 : (stF g2) = (stF p2)
          · refine G1 (XS.icmpNo X266.here hx rfl (hb hby at_249) rfl (teq hb284).2) ?_
            show Gs p e below QQ T266 m 252 #[iv p1, iv p2, iv p3, iv p4, iv p5, iv p6, iv 1, iv 2, iv g2, iv g3, iv ((9 : Int32) + (p6 &&& (7 : Int32))), rv b235, iv (stF p2), iv (stF g2), .unset, .unset] []
            refine G1 (XS.iload X266.here hx rfl (hb hby at_252) rfl) ?_
            refine G1 (XS.iconst X266.here hx rfl (hb hby at_254)) ?_
            show Gs p e below QQ T266 m 255 #[iv p1, iv p2, iv p3, iv p4, iv p5, iv p6, iv 1, iv 2, iv g2, iv g3, iv ((9 : Int32) + (p6 &&& (7 : Int32))), rv b235, iv (stF p2), iv (stF g2), .unset, .unset] [(.int 1), (.int (stF g2))]
            refine G1 (XS.iadd X266.here hx rfl (hb hby at_255) rfl) ?_
            show Gs p e below QQ T266 m 256 #[iv p1, iv p2, iv p3, iv p4, iv p5, iv p6, iv 1, iv 2, iv g2, iv g3, iv ((9 : Int32) + (p6 &&& (7 : Int32))), rv b235, iv (stF p2), iv (stF g2), .unset, .unset] [(.int ((stF g2) + (1 : Int32)))]
            refine G1 (XS.bipush X266.here hx rfl (hb hby at_256)) ?_
            show Gs p e below QQ T266 m 258 #[iv p1, iv p2, iv p3, iv p4, iv p5, iv p6, iv 1, iv 2, iv g2, iv g3, iv ((9 : Int32) + (p6 &&& (7 : Int32))), rv b235, iv (stF p2), iv (stF g2), .unset, .unset] [(.int 31), (.int ((stF g2) + (1 : Int32)))]
            refine G1 (XS.iand X266.here hx rfl (hb hby at_258) rfl) ?_
            show Gs p e below QQ T266 m 259 #[iv p1, iv p2, iv p3, iv p4, iv p5, iv p6, iv 1, iv 2, iv g2, iv g3, iv ((9 : Int32) + (p6 &&& (7 : Int32))), rv b235, iv (stF p2), iv (stF g2), .unset, .unset] [(.int (((stF g2) + (1 : Int32)) &&& (31 : Int32)))]
            refine G1 (XS.istore X266.here hx rfl (hb hby at_259) rfl (l' := #[iv p1, iv p2, iv p3, iv p4, iv p5, iv p6, iv 1, iv 2, iv g2, iv g3, iv ((9 : Int32) + (p6 &&& (7 : Int32))), rv b235, iv (stF p2), iv (((stF g2) + (1 : Int32)) &&& (31 : Int32)), .unset, .unset]) rfl) ?_
            show Goes p e below QQ (T266.setTop (mkF m 261 #[iv p1, iv p2, iv p3, iv p4, iv p5, iv p6, iv 1, iv 2, iv g2, iv g3, iv ((9 : Int32) + (p6 &&& (7 : Int32))), rv b235, iv (stF p2), iv (((stF g2) + (1 : Int32)) &&& (31 : Int32)), .unset, .unset] []))
            rw [(((if_pos hb284).trans rfl) : (if (stF g2) = (stF p2) then (((stF g2) + (1 : Int32)) &&& (31 : Int32)) else (stF g2)) = (((stF g2) + (1 : Int32)) &&& (31 : Int32)))] at J267
            exact J267 _ _ X266 e266 N266
          · refine G1 (XS.icmpYes X266.here hx rfl (pc0 := 249) (pc' := 261) rfl (hb hby at_249) rfl (feq hb284).2 (by decide) (by decide)) ?_
            show Goes p e below QQ (T266.setTop (mkF m 261 #[iv p1, iv p2, iv p3, iv p4, iv p5, iv p6, iv 1, iv 2, iv g2, iv g3, iv ((9 : Int32) + (p6 &&& (7 : Int32))), rv b235, iv (stF p2), iv (stF g2), .unset, .unset] []))
            rw [(((if_neg hb284).trans rfl) : (if (stF g2) = (stF p2) then (((stF g2) + (1 : Int32)) &&& (31 : Int32)) else (stF g2)) = (stF g2))] at J267
            exact J267 _ _ X266 e266 N266
        show Goes p e below QQ (TJ233.setTop (mkF m 38 #[iv p1, iv p2, iv p3, iv p4, iv p5, iv p6, iv 1, iv 2, iv (if (p1 &&& (8 : Int32)) = (0 : Int32) then p3 else p2), .unset, .unset, .unset, .unset, .unset, .unset, .unset] [(.int (p1 &&& (16 : Int32)))]))
        by_cases hb285 : (p1 &&& (16 : Int32)) = (0 : Int32)
        · refine G1 (XS.ifYes XJ233.here hx rfl (pc0 := 38) (pc' := 45) rfl (hb hby at_38) rfl ((if0 _ _).trans (teq hb285).1) (by decide) (by decide)) ?_
          show Gs p e below QQ TJ233 m 45 #[iv p1, iv p2, iv p3, iv p4, iv p5, iv p6, iv 1, iv 2, iv (if (p1 &&& (8 : Int32)) = (0 : Int32) then p3 else p2), .unset, .unset, .unset, .unset, .unset, .unset, .unset] []
          refine G1 (XS.iloadN XJ233.here hx rfl (hb hby at_45) rfl) ?_
          refine G1 (XS.bipush XJ233.here hx rfl (hb hby at_46)) ?_
          show Gs p e below QQ TJ233 m 48 #[iv p1, iv p2, iv p3, iv p4, iv p5, iv p6, iv 1, iv 2, iv (if (p1 &&& (8 : Int32)) = (0 : Int32) then p3 else p2), .unset, .unset, .unset, .unset, .unset, .unset, .unset] [(.int 32), (.int p1)]
          refine G1 (XS.iand XJ233.here hx rfl (hb hby at_48) rfl) ?_
          show Goes p e below QQ (TJ233.setTop (mkF m 49 #[iv p1, iv p2, iv p3, iv p4, iv p5, iv p6, iv 1, iv 2, iv (if (p1 &&& (8 : Int32)) = (0 : Int32) then p3 else p2), .unset, .unset, .unset, .unset, .unset, .unset, .unset] [(.int (p1 &&& (32 : Int32)))]))
          by_cases hb286 : (p1 &&& (32 : Int32)) = (0 : Int32)
          · refine G1 (XS.ifYes XJ233.here hx rfl (pc0 := 49) (pc' := 57) rfl (hb hby at_49) rfl ((if0 _ _).trans (teq hb286).1) (by decide) (by decide)) ?_
            show Gs p e below QQ TJ233 m 57 #[iv p1, iv p2, iv p3, iv p4, iv p5, iv p6, iv 1, iv 2, iv (if (p1 &&& (8 : Int32)) = (0 : Int32) then p3 else p2), .unset, .unset, .unset, .unset, .unset, .unset, .unset] []
            refine G1 (XS.iloadN XJ233.here hx rfl (hb hby at_57) rfl) ?_
            show Goes p e below QQ (TJ233.setTop (mkF m 58 #[iv p1, iv p2, iv p3, iv p4, iv p5, iv p6, iv 1, iv 2, iv (if (p1 &&& (8 : Int32)) = (0 : Int32) then p3 else p2), .unset, .unset, .unset, .unset, .unset, .unset, .unset] [(.int p4)]))
            rw [(((if_pos hb285).trans ((if_pos hb286).trans rfl)) : (if (p1 &&& (16 : Int32)) = (0 : Int32) then (if (p1 &&& (32 : Int32)) = (0 : Int32) then p4 else (if (p1 &&& (8 : Int32)) = (0 : Int32) then p3 else p2)) else p2) = p4)] at J234
            exact J234 _ _ XJ233 eJ233 NJ233
          · refine G1 (XS.ifNo XJ233.here hx rfl (hb hby at_49) rfl ((if0 _ _).trans (feq hb286).1)) ?_
            show Gs p e below QQ TJ233 m 52 #[iv p1, iv p2, iv p3, iv p4, iv p5, iv p6, iv 1, iv 2, iv (if (p1 &&& (8 : Int32)) = (0 : Int32) then p3 else p2), .unset, .unset, .unset, .unset, .unset, .unset, .unset] []
            refine G1 (XS.iload XJ233.here hx rfl (hb hby at_52) rfl) ?_
            refine G1 (XS.goto XJ233.here hx rfl (pc0 := 54) (pc' := 58) rfl (hb hby at_54) (by decide) (by decide)) ?_
            show Goes p e below QQ (TJ233.setTop (mkF m 58 #[iv p1, iv p2, iv p3, iv p4, iv p5, iv p6, iv 1, iv 2, iv (if (p1 &&& (8 : Int32)) = (0 : Int32) then p3 else p2), .unset, .unset, .unset, .unset, .unset, .unset, .unset] [(.int (if (p1 &&& (8 : Int32)) = (0 : Int32) then p3 else p2))]))
            rw [(((if_pos hb285).trans ((if_neg hb286).trans rfl)) : (if (p1 &&& (16 : Int32)) = (0 : Int32) then (if (p1 &&& (32 : Int32)) = (0 : Int32) then p4 else (if (p1 &&& (8 : Int32)) = (0 : Int32) then p3 else p2)) else p2) = (if (p1 &&& (8 : Int32)) = (0 : Int32) then p3 else p2))] at J234
            exact J234 _ _ XJ233 eJ233 NJ233
        · refine G1 (XS.ifNo XJ233.here hx rfl (hb hby at_38) rfl ((if0 _ _).trans (feq hb285).1)) ?_
          show Gs p e below QQ TJ233 m 41 #[iv p1, iv p2, iv p3, iv p4, iv p5, iv p6, iv 1, iv 2, iv (if (p1 &&& (8 : Int32)) = (0 : Int32) then p3 else p2), .unset, .unset, .unset, .unset, .unset, .unset, .unset] []
          refine G1 (XS.iloadN XJ233.here hx rfl (hb hby at_41) rfl) ?_
          refine G1 (XS.goto XJ233.here hx rfl (pc0 := 42) (pc' := 58) rfl (hb hby at_42) (by decide) (by decide)) ?_
          show Goes p e below QQ (TJ233.setTop (mkF m 58 #[iv p1, iv p2, iv p3, iv p4, iv p5, iv p6, iv 1, iv 2, iv (if (p1 &&& (8 : Int32)) = (0 : Int32) then p3 else p2), .unset, .unset, .unset, .unset, .unset, .unset, .unset] [(.int p2)]))
          rw [(((if_neg hb285).trans rfl) : (if (p1 &&& (16 : Int32)) = (0 : Int32) then (if (p1 &&& (32 : Int32)) = (0 : Int32) then p4 else (if (p1 &&& (8 : Int32)) = (0 : Int32) then p3 else p2)) else p2) = p2)] at J234
          exact J234 _ _ XJ233 eJ233 NJ233
      show Goes p e below QQ (s₁.setTop (mkF m 24 #[iv p1, iv p2, iv p3, iv p4, iv p5, iv p6, iv 1, iv 2, .unset, .unset, .unset, .unset, .unset, .unset, .unset, .unset] [(.int (p1 &&& (8 : Int32)))]))
      by_cases hb287 : (p1 &&& (8 : Int32)) = (0 : Int32)
      · refine G1 (XS.ifYes X0.here hx rfl (pc0 := 24) (pc' := 31) rfl (hb hby at_24) rfl ((if0 _ _).trans (teq hb287).1) (by decide) (by decide)) ?_
        show Gs p e below QQ s₁ m 31 #[iv p1, iv p2, iv p3, iv p4, iv p5, iv p6, iv 1, iv 2, .unset, .unset, .unset, .unset, .unset, .unset, .unset, .unset] []
        refine G1 (XS.iloadN X0.here hx rfl (hb hby at_31) rfl) ?_
        show Goes p e below QQ (s₁.setTop (mkF m 32 #[iv p1, iv p2, iv p3, iv p4, iv p5, iv p6, iv 1, iv 2, .unset, .unset, .unset, .unset, .unset, .unset, .unset, .unset] [(.int p3)]))
        rw [(((if_pos hb287).trans rfl) : (if (p1 &&& (8 : Int32)) = (0 : Int32) then p3 else p2) = p3)] at J233
        exact J233 _ _ X0 e0 N0
      · refine G1 (XS.ifNo X0.here hx rfl (hb hby at_24) rfl ((if0 _ _).trans (feq hb287).1)) ?_
        show Gs p e below QQ s₁ m 27 #[iv p1, iv p2, iv p3, iv p4, iv p5, iv p6, iv 1, iv 2, .unset, .unset, .unset, .unset, .unset, .unset, .unset, .unset] []
        refine G1 (XS.iloadN X0.here hx rfl (hb hby at_27) rfl) ?_
        refine G1 (XS.goto X0.here hx rfl (pc0 := 28) (pc' := 32) rfl (hb hby at_28) (by decide) (by decide)) ?_
        show Goes p e below QQ (s₁.setTop (mkF m 32 #[iv p1, iv p2, iv p3, iv p4, iv p5, iv p6, iv 1, iv 2, .unset, .unset, .unset, .unset, .unset, .unset, .unset, .unset] [(.int p2)]))
        rw [(((if_neg hb287).trans rfl) : (if (p1 &&& (8 : Int32)) = (0 : Int32) then p3 else p2) = p2)] at J233
        exact J233 _ _ X0 e0 N0
    · rw [hk]
      show Goes p e below QQ (s₁.setTop (mkF m 20 #[iv p1, iv p2, iv p3, iv p4, iv p5, iv p6, iv 1, iv 3, .unset, .unset, .unset, .unset, .unset, .unset, .unset, .unset] []))
      refine G1 (XS.iloadN X0.here hx rfl (hb hby at_20) rfl) ?_
      refine G1 (XS.bipush X0.here hx rfl (hb hby at_21)) ?_
      show Gs p e below QQ s₁ m 23 #[iv p1, iv p2, iv p3, iv p4, iv p5, iv p6, iv 1, iv 3, .unset, .unset, .unset, .unset, .unset, .unset, .unset, .unset] [(.int 8), (.int p1)]
      refine G1 (XS.iand X0.here hx rfl (hb hby at_23) rfl) ?_
      show Goes p e below QQ (s₁.setTop (mkF m 24 #[iv p1, iv p2, iv p3, iv p4, iv p5, iv p6, iv 1, iv 3, .unset, .unset, .unset, .unset, .unset, .unset, .unset, .unset] [(.int (p1 &&& (8 : Int32)))]))
      have J288 : ∀ (TJ288 : State) (lJ288 : List Loc), Stand p l e room_1 s m #[(.int p1), (.int p2), (.int p3), (.int p4), (.int p5), (.int p6)] below meth c TJ288 lJ288 0 0 → TJ288.heap = h0 → Fr n0 lJ288 → Goes p e below QQ (TJ288.setTop (mkF m 32 #[iv p1, iv p2, iv p3, iv p4, iv p5, iv p6, iv 1, iv 3, .unset, .unset, .unset, .unset, .unset, .unset, .unset, .unset] [(.int (if (p1 &&& (8 : Int32)) = (0 : Int32) then p3 else p2))])) := by
        intro TJ288 lJ288 XJ288 eJ288 NJ288
        refine G1 (XS.istore XJ288.here hx rfl (hb hby at_32) rfl (l' := #[iv p1, iv p2, iv p3, iv p4, iv p5, iv p6, iv 1, iv 3, iv (if (p1 &&& (8 : Int32)) = (0 : Int32) then p3 else p2), .unset, .unset, .unset, .unset, .unset, .unset, .unset]) rfl) ?_
        refine G1 (XS.iloadN XJ288.here hx rfl (hb hby at_34) rfl) ?_
        refine G1 (XS.bipush XJ288.here hx rfl (hb hby at_35)) ?_
        show Gs p e below QQ TJ288 m 37 #[iv p1, iv p2, iv p3, iv p4, iv p5, iv p6, iv 1, iv 3, iv (if (p1 &&& (8 : Int32)) = (0 : Int32) then p3 else p2), .unset, .unset, .unset, .unset, .unset, .unset, .unset] [(.int 16), (.int p1)]
        refine G1 (XS.iand XJ288.here hx rfl (hb hby at_37) rfl) ?_
        show Goes p e below QQ (TJ288.setTop (mkF m 38 #[iv p1, iv p2, iv p3, iv p4, iv p5, iv p6, iv 1, iv 3, iv (if (p1 &&& (8 : Int32)) = (0 : Int32) then p3 else p2), .unset, .unset, .unset, .unset, .unset, .unset, .unset] [(.int (p1 &&& (16 : Int32)))]))
        have J289 : ∀ (TJ289 : State) (lJ289 : List Loc), Stand p l e room_1 s m #[(.int p1), (.int p2), (.int p3), (.int p4), (.int p5), (.int p6)] below meth c TJ289 lJ289 0 0 → TJ289.heap = h0 → Fr n0 lJ289 → Goes p e below QQ (TJ289.setTop (mkF m 58 #[iv p1, iv p2, iv p3, iv p4, iv p5, iv p6, iv 1, iv 3, iv (if (p1 &&& (8 : Int32)) = (0 : Int32) then p3 else p2), .unset, .unset, .unset, .unset, .unset, .unset, .unset] [(.int (if (p1 &&& (16 : Int32)) = (0 : Int32) then (if (p1 &&& (32 : Int32)) = (0 : Int32) then p4 else (if (p1 &&& (8 : Int32)) = (0 : Int32) then p3 else p2)) else p2))])) := by
          intro TJ289 lJ289 XJ289 eJ289 NJ289
          refine G1 (XS.istore XJ289.here hx rfl (hb hby at_58) rfl (l' := #[iv p1, iv p2, iv p3, iv p4, iv p5, iv p6, iv 1, iv 3, iv (if (p1 &&& (8 : Int32)) = (0 : Int32) then p3 else p2), iv (if (p1 &&& (16 : Int32)) = (0 : Int32) then (if (p1 &&& (32 : Int32)) = (0 : Int32) then p4 else (if (p1 &&& (8 : Int32)) = (0 : Int32) then p3 else p2)) else p2), .unset, .unset, .unset, .unset, .unset, .unset]) rfl) ?_
          show Goes p e below QQ (TJ289.setTop (mkF m 60 #[iv p1, iv p2, iv p3, iv p4, iv p5, iv p6, iv 1, iv 3, iv (if (p1 &&& (8 : Int32)) = (0 : Int32) then p3 else p2), iv (if (p1 &&& (16 : Int32)) = (0 : Int32) then (if (p1 &&& (32 : Int32)) = (0 : Int32) then p4 else (if (p1 &&& (8 : Int32)) = (0 : Int32) then p3 else p2)) else p2), .unset, .unset, .unset, .unset, .unset, .unset] []))
          generalize (if (p1 &&& (16 : Int32)) = (0 : Int32) then (if (p1 &&& (32 : Int32)) = (0 : Int32) then p4 else (if (p1 &&& (8 : Int32)) = (0 : Int32) then p3 else p2)) else p2) = g3
          generalize (if (p1 &&& (8 : Int32)) = (0 : Int32) then p3 else p2) = g2
          show Goes p e below QQ (TJ289.setTop (mkF m 60 #[iv p1, iv p2, iv p3, iv p4, iv p5, iv p6, iv 1, iv 3, iv g2, iv g3, .unset, .unset, .unset, .unset, .unset, .unset] []))
          refine G1 (XS.iload XJ289.here hx rfl (hb hby at_60) rfl) ?_
          show Gs p e below QQ TJ289 m 62 #[iv p1, iv p2, iv p3, iv p4, iv p5, iv p6, iv 1, iv 3, iv g2, iv g3, .unset, .unset, .unset, .unset, .unset, .unset] [(.int 1)]
          refine G1 (XS.ifNo XJ289.here hx rfl (hb hby at_62) rfl ((if0 _ _).trans (feq (by decide)).1)) ?_
          show Gs p e below QQ TJ289 m 65 #[iv p1, iv p2, iv p3, iv p4, iv p5, iv p6, iv 1, iv 3, iv g2, iv g3, .unset, .unset, .unset, .unset, .unset, .unset] []
          refine G1 (XS.bipush XJ289.here hx rfl (hb hby at_65)) ?_
          refine G1 (XS.iload XJ289.here hx rfl (hb hby at_67) rfl) ?_
          refine G1 (XS.bipush XJ289.here hx rfl (hb hby at_69)) ?_
          show Gs p e below QQ TJ289 m 71 #[iv p1, iv p2, iv p3, iv p4, iv p5, iv p6, iv 1, iv 3, iv g2, iv g3, .unset, .unset, .unset, .unset, .unset, .unset] [(.int 7), (.int p6), (.int 9)]
          refine G1 (XS.iand XJ289.here hx rfl (hb hby at_71) rfl) ?_
          show Gs p e below QQ TJ289 m 72 #[iv p1, iv p2, iv p3, iv p4, iv p5, iv p6, iv 1, iv 3, iv g2, iv g3, .unset, .unset, .unset, .unset, .unset, .unset] [(.int (p6 &&& (7 : Int32))), (.int 9)]
          refine G1 (XS.iadd XJ289.here hx rfl (hb hby at_72) rfl) ?_
          show Gs p e below QQ TJ289 m 73 #[iv p1, iv p2, iv p3, iv p4, iv p5, iv p6, iv 1, iv 3, iv g2, iv g3, .unset, .unset, .unset, .unset, .unset, .unset] [(.int ((9 : Int32) + (p6 &&& (7 : Int32))))]
          refine G1 (XS.goto XJ289.here hx rfl (pc0 := 73) (pc' := 84) rfl (hb hby at_73) (by decide) (by decide)) ?_
          refine G1 (XS.istore XJ289.here hx rfl (hb hby at_84) rfl (l' := #[iv p1, iv p2, iv p3, iv p4, iv p5, iv p6, iv 1, iv 3, iv g2, iv g3, iv ((9 : Int32) + (p6 &&& (7 : Int32))), .unset, .unset, .unset, .unset, .unset]) rfl) ?_
          show Goes p e below QQ (TJ289.setTop (mkF m 86 #[iv p1, iv p2, iv p3, iv p4, iv p5, iv p6, iv 1, iv 3, iv g2, iv g3, iv ((9 : Int32) + (p6 &&& (7 : Int32))), .unset, .unset, .unset, .unset, .unset] []))
          obtain ⟨T290, h290, X290, e290, E290, A290, D290, -, st290⟩ := newO XJ289 hx hZ hown (wI hw 0 rfl) (wI hw 1 rfl) (wI hw 2 rfl) eJ289 (g := (mkF m 86 #[iv p1, iv p2, iv p3, iv p4, iv p5, iv p6, iv 1, iv 3, iv g2, iv g3, iv ((9 : Int32) + (p6 &&& (7 : Int32))), .unset, .unset, .unset, .unset, .unset] [])) rfl (hb hby at_86) (by decide) (by decide)
          obtain ⟨b290, g290⟩ : ∃ z, z = h0.size := ⟨_, rfl⟩
          rw [← g290] at A290 D290 st290
          have sz_b290 : h0.size ≤ b290 := Nat.le_trans K0.1 (Nat.le_of_eq g290.symm)
          have g_b290 : n0 ≤ b290 := Nat.le_trans Z0 sz_b290
          have K290 := K0.ext E290
          have X290 : Stand p l e room_1 s m #[(.int p1), (.int p2), (.int p3), (.int p4), (.int p5), (.int p6)] below meth c T290 _ 1 4 := X290
          have F_291 : Fld Z h290 b290 "com/example/bindery/bindery/PartIndex" "hashes" "[I" .null := D290 (Or.inl (wI hw 22 rfl)) (ty := (.array .int)) (by decide)
          have F_292 : Fld Z h290 b290 "com/example/bindery/bindery/PartIndex" "slots" "[I" .null := D290 (Or.inl (wI hw 30 rfl)) (ty := (.array .int)) (by decide)
          have F_293 : Fld Z h290 b290 "com/example/bindery/bindery/PartIndex" "size" "I" (.int 0) := D290 (Or.inl (wI hw 32 rfl)) (ty := .int) (by decide)
          have F_294 : Fld Z h290 b290 "com/example/bindery/bindery/PartIndex" "shift" "I" (.int 0) := D290 (Or.inl (wI hw 61 rfl)) (ty := .int) (by decide)
          refine Goes.on (fun t k => st290 t k) ?_
          show Goes p e below QQ (T290.setTop (mkF m 89 #[iv p1, iv p2, iv p3, iv p4, iv p5, iv p6, iv 1, iv 3, iv g2, iv g3, iv ((9 : Int32) + (p6 &&& (7 : Int32))), .unset, .unset, .unset, .unset, .unset] [(.ref b290)]))
          refine G1 (XS.dup X290.here hx rfl (hb hby at_89) rfl rfl) ?_
          refine G1 (XS.iload X290.here hx rfl (hb hby at_90) rfl) ?_
          show Goes p e below QQ (T290.setTop (mkF m 92 #[iv p1, iv p2, iv p3, iv p4, iv p5, iv p6, iv 1, iv 3, iv g2, iv g3, iv ((9 : Int32) + (p6 &&& (7 : Int32))), .unset, .unset, .unset, .unset, .unset] [(.int ((9 : Int32) + (p6 &&& (7 : Int32)))), (.ref b290), (.ref b290)]))
          obtain ⟨nn, hr, hn⟩ := own_room1 p6
          obtain ⟨_, _, ⟨T295, L295, k295, n295⟩, -, X295, ⟨Lc295, hQ295, l295, y295, z295⟩, st295⟩ := X290.specialBack hx (y := (⟨"com/example/bindery/bindery/PartIndex", "<init>", "(I)V"⟩ : MethodName)) rfl hown (mvT hZ (wI hw 3 rfl)) (mvT hZ (wI hw 4 rfl)) (mvT hZ (wI hw 5 rfl)) (by decide) (backOf (W := 1) (rmIn1 l Z a0 hw [] b290 ((9 : Int32) + (p6 &&& (7 : Int32))) nn h290 n0 (Nat.le_trans Z0 K290.1) A290 F_291 F_292 F_294 F_293 g_b290 hr hn) hZ (wI hw 5 rfl) (wI hw 2 rfl) (by decide) (by decide)) (g := (mkF m 92 #[iv p1, iv p2, iv p3, iv p4, iv p5, iv p6, iv 1, iv 3, iv g2, iv g3, iv ((9 : Int32) + (p6 &&& (7 : Int32))), .unset, .unset, .unset, .unset, .unset] [(.int ((9 : Int32) + (p6 &&& (7 : Int32)))), (.ref b290), (.ref b290)])) rfl (by rw [hml]; rfl) (Steps.refl _) (a := b290) (argsL := [(.int ((9 : Int32) + (p6 &&& (7 : Int32))))]) (rest := [(.ref b290)]) (lenOf pd_2 rfl) rfl (by show 2 * 0 + _ ≤ _; exact Nat.le_of_eq rfl) (hb hby at_92) (fun _ _ => ⟨rfl, e290, (by decide : 1 + 2 ≤ _), (by decide : 4 + 48 ≤ _)⟩)
          dsimp only [Pt.U, Pt.locs, Pt.cells, Pt.slots] at X295 l295 y295 z295 st295 hQ295
          have l295 := l295.symm; have y295 := y295.symm; have z295 := z295.symm; subst l295 y295 z295
          have X295 : Stand p l e room_1 s m #[(.int p1), (.int p2), (.int p3), (.int p4), (.int p5), (.int p6)] below meth c T295 _ 3 52 := X295
          obtain ⟨bh, kh, bd, kd, rfl, M295, Kc, szh, szd, nehd, ⟨hashes_c, slots_c, shift_c, size_c⟩, Vh, Vd⟩ := hQ295
          have sz_bh : h0.size ≤ bh := Nat.le_trans K290.1 szh
          have g_bh : n0 ≤ bh := Nat.le_trans Z0 sz_bh
          have ne_b290_bh : b290 ≠ bh := Nat.ne_of_lt (Nat.lt_of_lt_of_le A290.lt szh)
          have sz_bd : h0.size ≤ bd := Nat.le_trans K290.1 szd
          have g_bd : n0 ≤ bd := Nat.le_trans Z0 sz_bd
          have ne_b290_bd : b290 ≠ bd := Nat.ne_of_lt (Nat.lt_of_lt_of_le A290.lt szd)
          have N295 := Fr.app NJ289 M295
          refine Goes.on (fun t k => st295.trans k) ?_
          have A290_296 := A290.keep Kc
          have K301 := K290.trans Kc (allS (Or.inr sz_b290) all0)
          show Goes p e below QQ (T295.setTop (mkF m 95 #[iv p1, iv p2, iv p3, iv p4, iv p5, iv p6, iv 1, iv 3, iv g2, iv g3, iv ((9 : Int32) + (p6 &&& (7 : Int32))), .unset, .unset, .unset, .unset, .unset] [(.ref b290)]))
          obtain ⟨S0, hS0⟩ : ∃ z : List Value, z = (List.replicate 32 (.int (0 : Int32))) := ⟨_, rfl⟩
          rw [← hS0] at Vd
          have HS0 : IntS S0 := by rw [hS0]; exact own_S0
          show Goes p e below QQ (T295.setTop (mkF m 95 #[iv p1, iv p2, iv p3, iv p4, iv p5, iv p6, iv 1, iv 3, iv g2, iv g3, iv ((9 : Int32) + (p6 &&& (7 : Int32))), .unset, .unset, .unset, .unset, .unset] [(.ref b290)]))
          refine G1 (XS.astore X295.here hx rfl (hb hby at_95) rfl rfl (l' := #[iv p1, iv p2, iv p3, iv p4, iv p5, iv p6, iv 1, iv 3, iv g2, iv g3, iv ((9 : Int32) + (p6 &&& (7 : Int32))), rv b290, .unset, .unset, .unset, .unset]) rfl) ?_
          refine G1 (XS.iload X295.here hx rfl (hb hby at_97) rfl) ?_
          refine G1 (XS.iconst X295.here hx rfl (hb hby at_99)) ?_
          show Gs p e below QQ T295 m 100 #[iv p1, iv p2, iv p3, iv p4, iv p5, iv p6, iv 1, iv 3, iv g2, iv g3, iv ((9 : Int32) + (p6 &&& (7 : Int32))), rv b290, .unset, .unset, .unset, .unset] [(.int 1), (.int 3)]
          refine G1 (XS.icmpNo X295.here hx rfl (hb hby at_100) rfl (flt (by decide)).1) ?_
          show Gs p e below QQ T295 m 103 #[iv p1, iv p2, iv p3, iv p4, iv p5, iv p6, iv 1, iv 3, iv g2, iv g3, iv ((9 : Int32) + (p6 &&& (7 : Int32))), rv b290, .unset, .unset, .unset, .unset] []
          refine G1 (XS.aload X295.here hx rfl (hb hby at_103) rfl rfl) ?_
          refine G1 (XS.iloadN X295.here hx rfl (hb hby at_105) rfl) ?_
          show Goes p e below QQ (T295.setTop (mkF m 106 #[iv p1, iv p2, iv p3, iv p4, iv p5, iv p6, iv 1, iv 3, iv g2, iv g3, iv ((9 : Int32) + (p6 &&& (7 : Int32))), rv b290, .unset, .unset, .unset, .unset] [(.int p2), (.ref b290)]))
          have HF0 := own_free0 S0 hS0 p2
          obtain ⟨cq302, kq302, q302a, q302b, q302c⟩ := isOf hZ rfl A290_296
          obtain ⟨_, _, ⟨T302, L302, k302, n302⟩, -, X302, ⟨Lc302, hQ302, l302, y302, z302⟩, st302⟩ := X295.virtualBack hx (y := (⟨"com/example/bindery/bindery/PartIndex", "add", "(I)V"⟩ : MethodName)) (z := (⟨"com/example/bindery/bindery/PartIndex", "add", "(I)V"⟩ : MethodName)) hown (mvT hZ (wI hw 37 rfl)) (mvT hZ (wI hw 38 rfl)) (notFace_of_selects (args := #[]) (mvT hZ (wI hw 40 rfl))) (mvT hZ (wI hw 40 rfl)) (mvT hZ (wI hw 39 rfl)) (by decide) (backOf (W := 0) (rmA1_0 l Z a0 hw [] b290 bh bd p2 kh kd nn (0 : Int32) (0 : Int32) (0 : Int32) S0 T295.heap n0 (Nat.le_trans Z0 K301.1) A290_296 hashes_c slots_c shift_c size_c Vh Vd g_b290 g_bh g_bd ne_b290_bh ne_b290_bd nehd (own_lt9 (0 : Int32) nn hn (by decide)) HS0 HF0) hZ (wI hw 41 rfl) (wI hw 2 rfl) (by decide) (by decide)) q302a q302c (g := (mkF m 106 #[iv p1, iv p2, iv p3, iv p4, iv p5, iv p6, iv 1, iv 3, iv g2, iv g3, iv ((9 : Int32) + (p6 &&& (7 : Int32))), rv b290, .unset, .unset, .unset, .unset] [(.int p2), (.ref b290)])) rfl (by rw [hml]; rfl) (Steps.refl _) (argsL := [(.int p2)]) (rest := []) (lenOf pd_2 rfl) rfl (by show 2 * 0 + _ ≤ _; exact Nat.le_of_eq rfl) (hb hby at_106) (fun _ _ => ⟨rfl, rfl, (by decide : 3 + 0 ≤ _), (by decide : 52 + 0 ≤ _)⟩)
          dsimp only [Pt.U, Pt.locs, Pt.cells, Pt.slots] at X302 l302 y302 z302 st302 hQ302
          have l302 := l302.symm; have y302 := y302.symm; have z302 := z302.symm; subst l302 y302 z302
          have X302 : Stand p l e room_1 s m #[(.int p1), (.int p2), (.int p3), (.int p4), (.int p5), (.int p6)] below meth c T302 _ 3 52 := X302
          obtain ⟨rfl, M302, Kca0, ⟨hashes_a0, slots_a0, shift_a0, size_a0⟩, Vha0, Vda0⟩ := hQ302
          have N302 := Fr.app N295 M302
          refine Goes.on (fun t k => st302.trans k) ?_
          have A290_303 := A290_296.keep Kca0
          have K310 := K301.trans Kca0 (allS (Or.inr sz_b290) (allS (Or.inr sz_bh) (allS (Or.inr sz_bd) all0)))
          show Goes p e below QQ (T302.setTop (mkF m 109 #[iv p1, iv p2, iv p3, iv p4, iv p5, iv p6, iv 1, iv 3, iv g2, iv g3, iv ((9 : Int32) + (p6 &&& (7 : Int32))), rv b290, .unset, .unset, .unset, .unset] []))
          obtain ⟨S1, hS1⟩ : ∃ z : List Value, z = S0.set (prF S0 (stF p2)).toNatClampNeg (.int (1 : Int32)) := ⟨_, rfl⟩
          rw [← hS1] at Vda0
          have HS1 : IntS S1 := by rw [hS1]; exact own_IntS _ _ _ HS0
          show Goes p e below QQ (T302.setTop (mkF m 109 #[iv p1, iv p2, iv p3, iv p4, iv p5, iv p6, iv 1, iv 3, iv g2, iv g3, iv ((9 : Int32) + (p6 &&& (7 : Int32))), rv b290, .unset, .unset, .unset, .unset] []))
          refine G1 (XS.iload X302.here hx rfl (hb hby at_109) rfl) ?_
          refine G1 (XS.iconst X302.here hx rfl (hb hby at_111)) ?_
          show Gs p e below QQ T302 m 112 #[iv p1, iv p2, iv p3, iv p4, iv p5, iv p6, iv 1, iv 3, iv g2, iv g3, iv ((9 : Int32) + (p6 &&& (7 : Int32))), rv b290, .unset, .unset, .unset, .unset] [(.int 2), (.int 3)]
          refine G1 (XS.icmpNo X302.here hx rfl (hb hby at_112) rfl (flt (by decide)).1) ?_
          show Gs p e below QQ T302 m 115 #[iv p1, iv p2, iv p3, iv p4, iv p5, iv p6, iv 1, iv 3, iv g2, iv g3, iv ((9 : Int32) + (p6 &&& (7 : Int32))), rv b290, .unset, .unset, .unset, .unset] []
          refine G1 (XS.aload X302.here hx rfl (hb hby at_115) rfl rfl) ?_
          refine G1 (XS.iload X302.here hx rfl (hb hby at_117) rfl) ?_
          show Goes p e below QQ (T302.setTop (mkF m 119 #[iv p1, iv p2, iv p3, iv p4, iv p5, iv p6, iv 1, iv 3, iv g2, iv g3, iv ((9 : Int32) + (p6 &&& (7 : Int32))), rv b290, .unset, .unset, .unset, .unset] [(.int g2), (.ref b290)]))
          have HF1 := own_free1 p2 g2 S0 S1 hS0 hS1
          obtain ⟨cq311, kq311, q311a, q311b, q311c⟩ := isOf hZ rfl A290_303
          obtain ⟨_, _, ⟨T311, L311, k311, n311⟩, -, X311, ⟨Lc311, hQ311, l311, y311, z311⟩, st311⟩ := X302.virtualBack hx (y := (⟨"com/example/bindery/bindery/PartIndex", "add", "(I)V"⟩ : MethodName)) (z := (⟨"com/example/bindery/bindery/PartIndex", "add", "(I)V"⟩ : MethodName)) hown (mvT hZ (wI hw 37 rfl)) (mvT hZ (wI hw 38 rfl)) (notFace_of_selects (args := #[]) (mvT hZ (wI hw 40 rfl))) (mvT hZ (wI hw 40 rfl)) (mvT hZ (wI hw 39 rfl)) (by decide) (backOf (W := 0) (rmA1_1 l Z a0 hw [] b290 bh bd g2 kh kd nn p2 (0 : Int32) (0 : Int32) S1 T302.heap n0 (Nat.le_trans Z0 K310.1) A290_303 hashes_a0 slots_a0 shift_a0 size_a0 Vha0 Vda0 g_b290 g_bh g_bd ne_b290_bh ne_b290_bd nehd (own_lt9 (1 : Int32) nn hn (by decide)) HS1 HF1) hZ (wI hw 41 rfl) (wI hw 2 rfl) (by decide) (by decide)) q311a q311c (g := (mkF m 119 #[iv p1, iv p2, iv p3, iv p4, iv p5, iv p6, iv 1, iv 3, iv g2, iv g3, iv ((9 : Int32) + (p6 &&& (7 : Int32))), rv b290, .unset, .unset, .unset, .unset] [(.int g2), (.ref b290)])) rfl (by rw [hml]; rfl) (Steps.refl _) (argsL := [(.int g2)]) (rest := []) (lenOf pd_2 rfl) rfl (by show 2 * 0 + _ ≤ _; exact Nat.le_of_eq rfl) (hb hby at_119) (fun _ _ => ⟨rfl, rfl, (by decide : 3 + 0 ≤ _), (by decide : 52 + 0 ≤ _)⟩)
          dsimp only [Pt.U, Pt.locs, Pt.cells, Pt.slots] at X311 l311 y311 z311 st311 hQ311
          have l311 := l311.symm; have y311 := y311.symm; have z311 := z311.symm; subst l311 y311 z311
          have X311 : Stand p l e room_1 s m #[(.int p1), (.int p2), (.int p3), (.int p4), (.int p5), (.int p6)] below meth c T311 _ 3 52 := X311
          obtain ⟨rfl, M311, Kca1, ⟨hashes_a1, slots_a1, shift_a1, size_a1⟩, Vha1, Vda1⟩ := hQ311
          have N311 := Fr.app N302 M311
          refine Goes.on (fun t k => st311.trans k) ?_
          have A290_312 := A290_303.keep Kca1
          have K319 := K310.trans Kca1 (allS (Or.inr sz_b290) (allS (Or.inr sz_bh) (allS (Or.inr sz_bd) all0)))
          show Goes p e below QQ (T311.setTop (mkF m 122 #[iv p1, iv p2, iv p3, iv p4, iv p5, iv p6, iv 1, iv 3, iv g2, iv g3, iv ((9 : Int32) + (p6 &&& (7 : Int32))), rv b290, .unset, .unset, .unset, .unset] []))
          obtain ⟨S2, hS2⟩ : ∃ z : List Value, z = S1.set (prF S1 (stF g2)).toNatClampNeg (.int (2 : Int32)) := ⟨_, rfl⟩
          rw [← hS2] at Vda1
          have HS2 : IntS S2 := by rw [hS2]; exact own_IntS _ _ _ HS1
          show Goes p e below QQ (T311.setTop (mkF m 122 #[iv p1, iv p2, iv p3, iv p4, iv p5, iv p6, iv 1, iv 3, iv g2, iv g3, iv ((9 : Int32) + (p6 &&& (7 : Int32))), rv b290, .unset, .unset, .unset, .unset] []))
          refine G1 (XS.iload X311.here hx rfl (hb hby at_122) rfl) ?_
          refine G1 (XS.iconst X311.here hx rfl (hb hby at_124)) ?_
          show Gs p e below QQ T311 m 125 #[iv p1, iv p2, iv p3, iv p4, iv p5, iv p6, iv 1, iv 3, iv g2, iv g3, iv ((9 : Int32) + (p6 &&& (7 : Int32))), rv b290, .unset, .unset, .unset, .unset] [(.int 3), (.int 3)]
          refine G1 (XS.icmpNo X311.here hx rfl (hb hby at_125) rfl (flt (by decide)).1) ?_
          show Gs p e below QQ T311 m 128 #[iv p1, iv p2, iv p3, iv p4, iv p5, iv p6, iv 1, iv 3, iv g2, iv g3, iv ((9 : Int32) + (p6 &&& (7 : Int32))), rv b290, .unset, .unset, .unset, .unset] []
          refine G1 (XS.aload X311.here hx rfl (hb hby at_128) rfl rfl) ?_
          refine G1 (XS.iload X311.here hx rfl (hb hby at_130) rfl) ?_
          show Goes p e below QQ (T311.setTop (mkF m 132 #[iv p1, iv p2, iv p3, iv p4, iv p5, iv p6, iv 1, iv 3, iv g2, iv g3, iv ((9 : Int32) + (p6 &&& (7 : Int32))), rv b290, .unset, .unset, .unset, .unset] [(.int g3), (.ref b290)]))
          have HF2 := own_free2 p2 g2 g3 S0 S1 S2 hS0 hS1 hS2
          obtain ⟨cq320, kq320, q320a, q320b, q320c⟩ := isOf hZ rfl A290_312
          obtain ⟨_, _, ⟨T320, L320, k320, n320⟩, -, X320, ⟨Lc320, hQ320, l320, y320, z320⟩, st320⟩ := X311.virtualBack hx (y := (⟨"com/example/bindery/bindery/PartIndex", "add", "(I)V"⟩ : MethodName)) (z := (⟨"com/example/bindery/bindery/PartIndex", "add", "(I)V"⟩ : MethodName)) hown (mvT hZ (wI hw 37 rfl)) (mvT hZ (wI hw 38 rfl)) (notFace_of_selects (args := #[]) (mvT hZ (wI hw 40 rfl))) (mvT hZ (wI hw 40 rfl)) (mvT hZ (wI hw 39 rfl)) (by decide) (backOf (W := 0) (rmA1_2 l Z a0 hw [] b290 bh bd g3 kh kd nn p2 g2 (0 : Int32) S2 T311.heap n0 (Nat.le_trans Z0 K319.1) A290_312 hashes_a1 slots_a1 shift_a1 size_a1 Vha1 Vda1 g_b290 g_bh g_bd ne_b290_bh ne_b290_bd nehd (own_lt9 (2 : Int32) nn hn (by decide)) HS2 HF2) hZ (wI hw 41 rfl) (wI hw 2 rfl) (by decide) (by decide)) q320a q320c (g := (mkF m 132 #[iv p1, iv p2, iv p3, iv p4, iv p5, iv p6, iv 1, iv 3, iv g2, iv g3, iv ((9 : Int32) + (p6 &&& (7 : Int32))), rv b290, .unset, .unset, .unset, .unset] [(.int g3), (.ref b290)])) rfl (by rw [hml]; rfl) (Steps.refl _) (argsL := [(.int g3)]) (rest := []) (lenOf pd_2 rfl) rfl (by show 2 * 0 + _ ≤ _; exact Nat.le_of_eq rfl) (hb hby at_132) (fun _ _ => ⟨rfl, rfl, (by decide : 3 + 0 ≤ _), (by decide : 52 + 0 ≤ _)⟩)
          dsimp only [Pt.U, Pt.locs, Pt.cells, Pt.slots] at X320 l320 y320 z320 st320 hQ320
          have l320 := l320.symm; have y320 := y320.symm; have z320 := z320.symm; subst l320 y320 z320
          have X320 : Stand p l e room_1 s m #[(.int p1), (.int p2), (.int p3), (.int p4), (.int p5), (.int p6)] below meth c T320 _ 3 52 := X320
          obtain ⟨rfl, M320, Kca2, ⟨hashes_a2, slots_a2, shift_a2, size_a2⟩, Vha2, Vda2⟩ := hQ320
          have N320 := Fr.app N311 M320
          refine Goes.on (fun t k => st320.trans k) ?_
          have A290_321 := A290_312.keep Kca2
          have K328 := K319.trans Kca2 (allS (Or.inr sz_b290) (allS (Or.inr sz_bh) (allS (Or.inr sz_bd) all0)))
          show Goes p e below QQ (T320.setTop (mkF m 135 #[iv p1, iv p2, iv p3, iv p4, iv p5, iv p6, iv 1, iv 3, iv g2, iv g3, iv ((9 : Int32) + (p6 &&& (7 : Int32))), rv b290, .unset, .unset, .unset, .unset] []))
          obtain ⟨S3, hS3⟩ : ∃ z : List Value, z = S2.set (prF S2 (stF g3)).toNatClampNeg (.int (3 : Int32)) := ⟨_, rfl⟩
          rw [← hS3] at Vda2
          have HS3 : IntS S3 := by rw [hS3]; exact own_IntS _ _ _ HS2
          show Goes p e below QQ (T320.setTop (mkF m 135 #[iv p1, iv p2, iv p3, iv p4, iv p5, iv p6, iv 1, iv 3, iv g2, iv g3, iv ((9 : Int32) + (p6 &&& (7 : Int32))), rv b290, .unset, .unset, .unset, .unset] []))
          refine G1 (XS.iload X320.here hx rfl (hb hby at_135) rfl) ?_
          show Gs p e below QQ T320 m 137 #[iv p1, iv p2, iv p3, iv p4, iv p5, iv p6, iv 1, iv 3, iv g2, iv g3, iv ((9 : Int32) + (p6 &&& (7 : Int32))), rv b290, .unset, .unset, .unset, .unset] [(.int 1)]
          refine G1 (XS.ifYes X320.here hx rfl (pc0 := 137) (pc' := 228) rfl (hb hby at_137) rfl ((if0 _ _).trans (feq (by decide)).2) (by decide) (by decide)) ?_
          show Gs p e below QQ T320 m 228 #[iv p1, iv p2, iv p3, iv p4, iv p5, iv p6, iv 1, iv 3, iv g2, iv g3, iv ((9 : Int32) + (p6 &&& (7 : Int32))), rv b290, .unset, .unset, .unset, .unset] []
          refine G1 (XS.aload X320.here hx rfl (hb hby at_228) rfl rfl) ?_
          refine G1 (XS.iloadN X320.here hx rfl (hb hby at_230) rfl) ?_
          show Goes p e below QQ (T320.setTop (mkF m 231 #[iv p1, iv p2, iv p3, iv p4, iv p5, iv p6, iv 1, iv 3, iv g2, iv g3, iv ((9 : Int32) + (p6 &&& (7 : Int32))), rv b290, .unset, .unset, .unset, .unset] [(.int p2), (.ref b290)]))
          obtain ⟨cq329, kq329, q329a, q329b, q329c⟩ := isOf hZ rfl A290_321
          obtain ⟨_, _, ⟨T329, L329, k329, n329⟩, -, X329, ⟨Lc329, hQ329, l329, y329, z329⟩, st329⟩ := X320.virtualBack hx (y := (⟨"com/example/bindery/bindery/PartIndex", "start", "(I)I"⟩ : MethodName)) (z := (⟨"com/example/bindery/bindery/PartIndex", "start", "(I)I"⟩ : MethodName)) hown (mvT hZ (wI hw 77 rfl)) (mvT hZ (wI hw 67 rfl)) (notFace_of_selects (args := #[]) (mvT hZ (wI hw 69 rfl))) (mvT hZ (wI hw 69 rfl)) (mvT hZ (wI hw 68 rfl)) (by decide) (backOf (W := 0) (rmSt l Z a0 hw [] b290 p2 bd T320.heap n0 (Nat.le_trans Z0 K328.1) slots_a2 shift_a2) hZ (wI hw 70 rfl) (wI hw 2 rfl) (by decide) (by decide)) q329a q329c (g := (mkF m 231 #[iv p1, iv p2, iv p3, iv p4, iv p5, iv p6, iv 1, iv 3, iv g2, iv g3, iv ((9 : Int32) + (p6 &&& (7 : Int32))), rv b290, .unset, .unset, .unset, .unset] [(.int p2), (.ref b290)])) rfl (by rw [hml]; rfl) (Steps.refl _) (argsL := [(.int p2)]) (rest := []) (lenOf pd_1 rfl) rfl (by show 2 * 0 + _ ≤ _; exact Nat.le_of_eq rfl) (hb hby at_231) (fun _ _ => ⟨rfl, rfl, (by decide : 3 + 0 ≤ _), (by decide : 52 + 0 ≤ _)⟩)
          dsimp only [Pt.U, Pt.locs, Pt.cells, Pt.slots] at X329 l329 y329 z329 st329 hQ329
          have l329 := l329.symm; have y329 := y329.symm; have z329 := z329.symm; subst l329 y329 z329
          have X329 : Stand p l e room_1 s m #[(.int p1), (.int p2), (.int p3), (.int p4), (.int p5), (.int p6)] below meth c T329 _ 3 52 := X329
          obtain ⟨rfl, M329, e329⟩ := hQ329
          have N329 := Fr.app N320 M329
          refine Goes.on (fun t k => st329.trans k) ?_
          show Goes p e below QQ (T329.setTop (mkF m 234 #[iv p1, iv p2, iv p3, iv p4, iv p5, iv p6, iv 1, iv 3, iv g2, iv g3, iv ((9 : Int32) + (p6 &&& (7 : Int32))), rv b290, .unset, .unset, .unset, .unset] [(.int (stF p2))]))
          refine G1 (XS.istore X329.here hx rfl (hb hby at_234) rfl (l' := #[iv p1, iv p2, iv p3, iv p4, iv p5, iv p6, iv 1, iv 3, iv g2, iv g3, iv ((9 : Int32) + (p6 &&& (7 : Int32))), rv b290, iv (stF p2), .unset, .unset, .unset]) rfl) ?_
          refine G1 (XS.aload X329.here hx rfl (hb hby at_236) rfl rfl) ?_
          refine G1 (XS.iload X329.here hx rfl (hb hby at_238) rfl) ?_
          show Goes p e below QQ (T329.setTop (mkF m 240 #[iv p1, iv p2, iv p3, iv p4, iv p5, iv p6, iv 1, iv 3, iv g2, iv g3, iv ((9 : Int32) + (p6 &&& (7 : Int32))), rv b290, iv (stF p2), .unset, .unset, .unset] [(.int g2), (.ref b290)]))
          obtain ⟨cq330, kq330, q330a, q330b, q330c⟩ := isOf hZ e329 A290_321
          obtain ⟨_, _, ⟨T330, L330, k330, n330⟩, -, X330, ⟨Lc330, hQ330, l330, y330, z330⟩, st330⟩ := X329.virtualBack hx (y := (⟨"com/example/bindery/bindery/PartIndex", "start", "(I)I"⟩ : MethodName)) (z := (⟨"com/example/bindery/bindery/PartIndex", "start", "(I)I"⟩ : MethodName)) hown (mvT hZ (wI hw 77 rfl)) (mvT hZ (wI hw 67 rfl)) (notFace_of_selects (args := #[]) (mvT hZ (wI hw 69 rfl))) (mvT hZ (wI hw 69 rfl)) (mvT hZ (wI hw 68 rfl)) (by decide) (backOf (W := 0) (rmSt l Z a0 hw [] b290 g2 bd T320.heap n0 (Nat.le_trans Z0 K328.1) slots_a2 shift_a2) hZ (wI hw 70 rfl) (wI hw 2 rfl) (by decide) (by decide)) q330a q330c (g := (mkF m 240 #[iv p1, iv p2, iv p3, iv p4, iv p5, iv p6, iv 1, iv 3, iv g2, iv g3, iv ((9 : Int32) + (p6 &&& (7 : Int32))), rv b290, iv (stF p2), .unset, .unset, .unset] [(.int g2), (.ref b290)])) rfl (by rw [hml]; rfl) (Steps.refl _) (argsL := [(.int g2)]) (rest := []) (lenOf pd_1 rfl) rfl (by show 2 * 0 + _ ≤ _; exact Nat.le_of_eq rfl) (hb hby at_240) (fun _ _ => ⟨rfl, e329, (by decide : 3 + 0 ≤ _), (by decide : 52 + 0 ≤ _)⟩)
          dsimp only [Pt.U, Pt.locs, Pt.cells, Pt.slots] at X330 l330 y330 z330 st330 hQ330
          have l330 := l330.symm; have y330 := y330.symm; have z330 := z330.symm; subst l330 y330 z330
          have X330 : Stand p l e room_1 s m #[(.int p1), (.int p2), (.int p3), (.int p4), (.int p5), (.int p6)] below meth c T330 _ 3 52 := X330
          obtain ⟨rfl, M330, e330⟩ := hQ330
          have N330 := Fr.app N329 M330
          refine Goes.on (fun t k => st330.trans k) ?_
          show Goes p e below QQ (T330.setTop (mkF m 243 #[iv p1, iv p2, iv p3, iv p4, iv p5, iv p6, iv 1, iv 3, iv g2, iv g3, iv ((9 : Int32) + (p6 &&& (7 : Int32))), rv b290, iv (stF p2), .unset, .unset, .unset] [(.int (stF g2))]))
          refine G1 (XS.istore X330.here hx rfl (hb hby at_243) rfl (l' := #[iv p1, iv p2, iv p3, iv p4, iv p5, iv p6, iv 1, iv 3, iv g2, iv g3, iv ((9 : Int32) + (p6 &&& (7 : Int32))), rv b290, iv (stF p2), iv (stF g2), .unset, .unset]) rfl) ?_
          refine G1 (XS.iload X330.here hx rfl (hb hby at_245) rfl) ?_
          refine G1 (XS.iload X330.here hx rfl (hb hby at_247) rfl) ?_
          show Goes p e below QQ (T330.setTop (mkF m 249 #[iv p1, iv p2, iv p3, iv p4, iv p5, iv p6, iv 1, iv 3, iv g2, iv g3, iv ((9 : Int32) + (p6 &&& (7 : Int32))), rv b290, iv (stF p2), iv (stF g2), .unset, .unset] [(.int (stF p2)), (.int (stF g2))]))
          have J331 : ∀ (TJ331 : State) (lJ331 : List Loc), Stand p l e room_1 s m #[(.int p1), (.int p2), (.int p3), (.int p4), (.int p5), (.int p6)] below meth c TJ331 lJ331 3 52 → TJ331.heap = T320.heap → Fr n0 lJ331 → Goes p e below QQ (TJ331.setTop (mkF m 261 #[iv p1, iv p2, iv p3, iv p4, iv p5, iv p6, iv 1, iv 3, iv g2, iv g3, iv ((9 : Int32) + (p6 &&& (7 : Int32))), rv b290, iv (stF p2), iv (if (stF g2) = (stF p2) then (((stF g2) + (1 : Int32)) &&& (31 : Int32)) else (stF g2)), .unset, .unset] [])) := by
            intro TJ331 lJ331 XJ331 eJ331 NJ331
            refine G1 (XS.aload XJ331.here hx rfl (hb hby at_261) rfl rfl) ?_
            refine G1 (XS.iload XJ331.here hx rfl (hb hby at_263) rfl) ?_
            show Goes p e below QQ (TJ331.setTop (mkF m 265 #[iv p1, iv p2, iv p3, iv p4, iv p5, iv p6, iv 1, iv 3, iv g2, iv g3, iv ((9 : Int32) + (p6 &&& (7 : Int32))), rv b290, iv (stF p2), iv (if (stF g2) = (stF p2) then (((stF g2) + (1 : Int32)) &&& (31 : Int32)) else (stF g2)), .unset, .unset] [(.int g3), (.ref b290)]))
            obtain ⟨cq332, kq332, q332a, q332b, q332c⟩ := isOf hZ eJ331 A290_321
            obtain ⟨_, _, ⟨T332, L332, k332, n332⟩, -, X332, ⟨Lc332, hQ332, l332, y332, z332⟩, st332⟩ := XJ331.virtualBack hx (y := (⟨"com/example/bindery/bindery/PartIndex", "start", "(I)I"⟩ : MethodName)) (z := (⟨"com/example/bindery/bindery/PartIndex", "start", "(I)I"⟩ : MethodName)) hown (mvT hZ (wI hw 77 rfl)) (mvT hZ (wI hw 67 rfl)) (notFace_of_selects (args := #[]) (mvT hZ (wI hw 69 rfl))) (mvT hZ (wI hw 69 rfl)) (mvT hZ (wI hw 68 rfl)) (by decide) (backOf (W := 0) (rmSt l Z a0 hw [] b290 g3 bd T320.heap n0 (Nat.le_trans Z0 K328.1) slots_a2 shift_a2) hZ (wI hw 70 rfl) (wI hw 2 rfl) (by decide) (by decide)) q332a q332c (g := (mkF m 265 #[iv p1, iv p2, iv p3, iv p4, iv p5, iv p6, iv 1, iv 3, iv g2, iv g3, iv ((9 : Int32) + (p6 &&& (7 : Int32))), rv b290, iv (stF p2), iv (if (stF g2) = (stF p2) then (((stF g2) + (1 : Int32)) &&& (31 : Int32)) else (stF g2)), .unset, .unset] [(.int g3), (.ref b290)])) rfl (by rw [hml]; rfl) (Steps.refl _) (argsL := [(.int g3)]) (rest := []) (lenOf pd_1 rfl) rfl (by show 2 * 0 + _ ≤ _; exact Nat.le_of_eq rfl) (hb hby at_265) (fun _ _ => ⟨rfl, eJ331, (by decide : 3 + 0 ≤ _), (by decide : 52 + 0 ≤ _)⟩)
            dsimp only [Pt.U, Pt.locs, Pt.cells, Pt.slots] at X332 l332 y332 z332 st332 hQ332
            have l332 := l332.symm; have y332 := y332.symm; have z332 := z332.symm; subst l332 y332 z332
            have X332 : Stand p l e room_1 s m #[(.int p1), (.int p2), (.int p3), (.int p4), (.int p5), (.int p6)] below meth c T332 _ 3 52 := X332
            obtain ⟨rfl, M332, e332⟩ := hQ332
            have N332 := Fr.app NJ331 M332
            refine Goes.on (fun t k => st332.trans k) ?_
            show Goes p e below QQ (T332.setTop (mkF m 268 #[iv p1, iv p2, iv p3, iv p4, iv p5, iv p6, iv 1, iv 3, iv g2, iv g3, iv ((9 : Int32) + (p6 &&& (7 : Int32))), rv b290, iv (stF p2), iv (if (stF g2) = (stF p2) then (((stF g2) + (1 : Int32)) &&& (31 : Int32)) else (stF g2)), .unset, .unset] [(.int (stF g3))]))
            refine G1 (XS.istore X332.here hx rfl (hb hby at_268) rfl (l' := #[iv p1, iv p2, iv p3, iv p4, iv p5, iv p6, iv 1, iv 3, iv g2, iv g3, iv ((9 : Int32) + (p6 &&& (7 : Int32))), rv b290, iv (stF p2), iv (if (stF g2) = (stF p2) then (((stF g2) + (1 : Int32)) &&& (31 : Int32)) else (stF g2)), iv (stF g3), .unset]) rfl) ?_
            refine G1 (XS.iload X332.here hx rfl (hb hby at_270) rfl) ?_
            refine G1 (XS.iload X332.here hx rfl (hb hby at_272) rfl) ?_
            show Goes p e below QQ (T332.setTop (mkF m 274 #[iv p1, iv p2, iv p3, iv p4, iv p5, iv p6, iv 1, iv 3, iv g2, iv g3, iv ((9 : Int32) + (p6 &&& (7 : Int32))), rv b290, iv (stF p2), iv (if (stF g2) = (stF p2) then (((stF g2) + (1 : Int32)) &&& (31 : Int32)) else (stF g2)), iv (stF g3), .unset] [(.int (stF p2)), (.int (stF g3))]))
            have J333 : ∀ (TJ333 : State) (lJ333 : List Loc), Stand p l e room_1 s m #[(.int p1), (.int p2), (.int p3), (.int p4), (.int p5), (.int p6)] below meth c TJ333 lJ333 3 52 → TJ333.heap = T320.heap → Fr n0 lJ333 → Goes p e below QQ (TJ333.setTop (mkF m 316 #[iv p1, iv p2, iv p3, iv p4, iv p5, iv p6, iv 1, iv 3, iv g2, iv g3, iv ((9 : Int32) + (p6 &&& (7 : Int32))), rv b290, iv (stF p2), iv (if (stF g2) = (stF p2) then (((stF g2) + (1 : Int32)) &&& (31 : Int32)) else (stF g2)), iv (if (stF g3) = (stF p2) then (if (((stF g3) + (1 : Int32)) &&& (31 : Int32)) = (stF p2) then (((((stF g3) + (1 : Int32)) &&& (31 : Int32)) + (1 : Int32)) &&& (31 : Int32)) else (if (((stF g3) + (1 : Int32)) &&& (31 : Int32)) = (if (stF g2) = (stF p2) then (((stF g2) + (1 : Int32)) &&& (31 : Int32)) else (stF g2)) then (((((stF g3) + (1 : Int32)) &&& (31 : Int32)) + (1 : Int32)) &&& (31 : Int32)) else (((stF g3) + (1 : Int32)) &&& (31 : Int32)))) else (if (stF g3) = (if (stF g2) = (stF p2) then (((stF g2) + (1 : Int32)) &&& (31 : Int32)) else (stF g2)) then (if (((stF g3) + (1 : Int32)) &&& (31 : Int32)) = (stF p2) then (((((stF g3) + (1 : Int32)) &&& (31 : Int32)) + (1 : Int32)) &&& (31 : Int32)) else (if (((stF g3) + (1 : Int32)) &&& (31 : Int32)) = (if (stF g2) = (stF p2) then (((stF g2) + (1 : Int32)) &&& (31 : Int32)) else (stF g2)) then (((((stF g3) + (1 : Int32)) &&& (31 : Int32)) + (1 : Int32)) &&& (31 : Int32)) else (((stF g3) + (1 : Int32)) &&& (31 : Int32)))) else (stF g3))), .unset] [])) := by
              intro TJ333 lJ333 XJ333 eJ333 NJ333
              rw [own_Q3 p2 g2 g3]
              show Goes p e below QQ (TJ333.setTop (mkF m 316 #[iv p1, iv p2, iv p3, iv p4, iv p5, iv p6, iv 1, iv 3, iv g2, iv g3, iv ((9 : Int32) + (p6 &&& (7 : Int32))), rv b290, iv (stF p2), iv (if (stF g2) = (stF p2) then (((stF g2) + (1 : Int32)) &&& (31 : Int32)) else (stF g2)), iv (P3 p2 g2 g3), .unset] []))
              rw [own_Q2 p2 g2]
              show Goes p e below QQ (TJ333.setTop (mkF m 316 #[iv p1, iv p2, iv p3, iv p4, iv p5, iv p6, iv 1, iv 3, iv g2, iv g3, iv ((9 : Int32) + (p6 &&& (7 : Int32))), rv b290, iv (stF p2), iv (P2 p2 g2), iv (P3 p2 g2 g3), .unset] []))
              refine G1 (XS.iload XJ333.here hx rfl (hb hby at_316) rfl) ?_
              refine G1 (XS.bipush XJ333.here hx rfl (hb hby at_318)) ?_
              show Gs p e below QQ TJ333 m 320 #[iv p1, iv p2, iv p3, iv p4, iv p5, iv p6, iv 1, iv 3, iv g2, iv g3, iv ((9 : Int32) + (p6 &&& (7 : Int32))), rv b290, iv (stF p2), iv (P2 p2 g2), iv (P3 p2 g2 g3), .unset] [(.int 31), (.int p5)]
              refine G1 (XS.iand XJ333.here hx rfl (hb hby at_320) rfl) ?_
              show Gs p e below QQ TJ333 m 321 #[iv p1, iv p2, iv p3, iv p4, iv p5, iv p6, iv 1, iv 3, iv g2, iv g3, iv ((9 : Int32) + (p6 &&& (7 : Int32))), rv b290, iv (stF p2), iv (P2 p2 g2), iv (P3 p2 g2 g3), .unset] [(.int (p5 &&& (31 : Int32)))]
              refine G1 (XS.istore XJ333.here hx rfl (hb hby at_321) rfl (l' := #[iv p1, iv p2, iv p3, iv p4, iv p5, iv p6, iv 1, iv 3, iv g2, iv g3, iv ((9 : Int32) + (p6 &&& (7 : Int32))), rv b290, iv (stF p2), iv (P2 p2 g2), iv (P3 p2 g2 g3), iv (p5 &&& (31 : Int32))]) rfl) ?_
              refine G1 (XS.aload XJ333.here hx rfl (hb hby at_323) rfl rfl) ?_
              refine G1 (XS.iload XJ333.here hx rfl (hb hby at_325) rfl) ?_
              show Goes p e below QQ (TJ333.setTop (mkF m 327 #[iv p1, iv p2, iv p3, iv p4, iv p5, iv p6, iv 1, iv 3, iv g2, iv g3, iv ((9 : Int32) + (p6 &&& (7 : Int32))), rv b290, iv (stF p2), iv (P2 p2 g2), iv (P3 p2 g2 g3), iv (p5 &&& (31 : Int32))] [(.int (p5 &&& (31 : Int32))), (.ref b290)]))
              obtain ⟨cq334, kq334, q334a, q334b, q334c⟩ := isOf hZ eJ333 A290_321
              obtain ⟨_, _, ⟨T334, L334, k334, n334⟩, -, X334, ⟨Lc334, hQ334, l334, y334, z334⟩, st334⟩ := XJ333.virtualBack hx (y := (⟨"com/example/bindery/bindery/PartIndex", "entryAt", "(I)I"⟩ : MethodName)) (z := (⟨"com/example/bindery/bindery/PartIndex", "entryAt", "(I)I"⟩ : MethodName)) hown (mvT hZ (wI hw 24 rfl)) (mvT hZ (wI hw 25 rfl)) (notFace_of_selects (args := #[]) (mvT hZ (wI hw 27 rfl))) (mvT hZ (wI hw 27 rfl)) (mvT hZ (wI hw 26 rfl)) (by decide) (backOf (W := 0) (rmE1 l Z a0 hw [] b290 (p5 &&& (31 : Int32)) bd kd S3 (gi S3 (p5 &&& (31 : Int32))) T320.heap n0 (Nat.le_trans Z0 K328.1) slots_a2 Vda2 (own_m31 p5) (HS3.2 _)) hZ (wI hw 28 rfl) (wI hw 2 rfl) (by decide) (by decide)) q334a q334c (g := (mkF m 327 #[iv p1, iv p2, iv p3, iv p4, iv p5, iv p6, iv 1, iv 3, iv g2, iv g3, iv ((9 : Int32) + (p6 &&& (7 : Int32))), rv b290, iv (stF p2), iv (P2 p2 g2), iv (P3 p2 g2 g3), iv (p5 &&& (31 : Int32))] [(.int (p5 &&& (31 : Int32))), (.ref b290)])) rfl (by rw [hml]; rfl) (Steps.refl _) (argsL := [(.int (p5 &&& (31 : Int32)))]) (rest := []) (lenOf pd_1 rfl) rfl (by show 2 * 0 + _ ≤ _; exact Nat.le_of_eq rfl) (hb hby at_327) (fun _ _ => ⟨rfl, eJ333, (by decide : 3 + 0 ≤ _), (by decide : 52 + 0 ≤ _)⟩)
              dsimp only [Pt.U, Pt.locs, Pt.cells, Pt.slots] at X334 l334 y334 z334 st334 hQ334
              have l334 := l334.symm; have y334 := y334.symm; have z334 := z334.symm; subst l334 y334 z334
              have X334 : Stand p l e room_1 s m #[(.int p1), (.int p2), (.int p3), (.int p4), (.int p5), (.int p6)] below meth c T334 _ 3 52 := X334
              obtain ⟨rfl, M334, e334⟩ := hQ334
              have N334 := Fr.app NJ333 M334
              refine Goes.on (fun t k => st334.trans k) ?_
              show Goes p e below QQ (T334.setTop (mkF m 330 #[iv p1, iv p2, iv p3, iv p4, iv p5, iv p6, iv 1, iv 3, iv g2, iv g3, iv ((9 : Int32) + (p6 &&& (7 : Int32))), rv b290, iv (stF p2), iv (P2 p2 g2), iv (P3 p2 g2 g3), iv (p5 &&& (31 : Int32))] [(.int (entS (gi S3 (p5 &&& (31 : Int32)))))]))
              refine G1 (XS.iload X334.here hx rfl (hb hby at_330) rfl) ?_
              refine G1 (XS.iload X334.here hx rfl (hb hby at_332) rfl) ?_
              refine G1 (XS.iload X334.here hx rfl (hb hby at_334) rfl) ?_
              show Gs p e below QQ T334 m 336 #[iv p1, iv p2, iv p3, iv p4, iv p5, iv p6, iv 1, iv 3, iv g2, iv g3, iv ((9 : Int32) + (p6 &&& (7 : Int32))), rv b290, iv (stF p2), iv (P2 p2 g2), iv (P3 p2 g2 g3), iv (p5 &&& (31 : Int32))] [(.int (stF p2)), (.int 3), (.int (p5 &&& (31 : Int32))), (.int (entS (gi S3 (p5 &&& (31 : Int32)))))]
              refine G1 (XS.iload X334.here hx rfl (hb hby at_336) rfl) ?_
              refine G1 (XS.iload X334.here hx rfl (hb hby at_338) rfl) ?_
              show Goes p e below QQ (T334.setTop (mkF m 340 #[iv p1, iv p2, iv p3, iv p4, iv p5, iv p6, iv 1, iv 3, iv g2, iv g3, iv ((9 : Int32) + (p6 &&& (7 : Int32))), rv b290, iv (stF p2), iv (P2 p2 g2), iv (P3 p2 g2 g3), iv (p5 &&& (31 : Int32))] [(.int (P3 p2 g2 g3)), (.int (P2 p2 g2)), (.int (stF p2)), (.int 3), (.int (p5 &&& (31 : Int32))), (.int (entS (gi S3 (p5 &&& (31 : Int32)))))]))
              obtain ⟨_, _, ⟨T335, L335, k335, n335⟩, -, X335, ⟨Lc335, hQ335, l335, y335, z335⟩, st335⟩ := Jvm.LawKit.callS X334 hx (y := (⟨"com/example/bindery/bindery/PartIndexEntryAtPinLaw", "slot", "(IIIII)I"⟩ : MethodName)) hown (mvT hZ (wI hw 78 rfl)) (mvT hZ (wI hw 79 rfl)) (mvT hZ (wI hw 35 rfl)) (mvT hZ (wI hw 80 rfl)) (by decide) (backOf (W := 1) (rmSl l Z a0 hw [] (p5 &&& (31 : Int32)) (3 : Int32) (stF p2) (P2 p2 g2) (P3 p2 g2 g3) T320.heap n0 (Nat.le_trans Z0 K328.1) ) hZ (wI hw 80 rfl) (wI hw 35 rfl) (by decide) (by decide)) (g := (mkF m 340 #[iv p1, iv p2, iv p3, iv p4, iv p5, iv p6, iv 1, iv 3, iv g2, iv g3, iv ((9 : Int32) + (p6 &&& (7 : Int32))), rv b290, iv (stF p2), iv (P2 p2 g2), iv (P3 p2 g2 g3), iv (p5 &&& (31 : Int32))] [(.int (P3 p2 g2 g3)), (.int (P2 p2 g2)), (.int (stF p2)), (.int 3), (.int (p5 &&& (31 : Int32))), (.int (entS (gi S3 (p5 &&& (31 : Int32)))))])) rfl (by rw [hml]; rfl) (argsL := [(.int (p5 &&& (31 : Int32))), (.int 3), (.int (stF p2)), (.int (P2 p2 g2)), (.int (P3 p2 g2 g3))]) (rest := [(.int (entS (gi S3 (p5 &&& (31 : Int32)))))]) (lenOf pd_4 rfl) rfl (by show 2 * 0 + _ ≤ _; exact Nat.le_of_eq rfl) (hb hby at_340) (fun _ _ => ⟨rfl, e334, (by decide : 3 + 0 ≤ _), (by decide : 52 + 0 ≤ _)⟩)
              dsimp only [Pt.U, Pt.locs, Pt.cells, Pt.slots] at X335 l335 y335 z335 st335 hQ335
              have l335 := l335.symm; have y335 := y335.symm; have z335 := z335.symm; subst l335 y335 z335
              have X335 : Stand p l e room_1 s m #[(.int p1), (.int p2), (.int p3), (.int p4), (.int p5), (.int p6)] below meth c T335 _ 3 52 := X335
              obtain ⟨rfl, M335, e335⟩ := hQ335
              have N335 := Fr.app N334 M335
              refine Goes.on (fun t k => st335 _ k) ?_
              show Goes p e below QQ (T335.setTop (mkF m 343 #[iv p1, iv p2, iv p3, iv p4, iv p5, iv p6, iv 1, iv 3, iv g2, iv g3, iv ((9 : Int32) + (p6 &&& (7 : Int32))), rv b290, iv (stF p2), iv (P2 p2 g2), iv (P3 p2 g2 g3), iv (p5 &&& (31 : Int32))] [(.int (slotF (p5 &&& (31 : Int32)) (3 : Int32) (stF p2) (P2 p2 g2) (P3 p2 g2 g3))), (.int (entS (gi S3 (p5 &&& (31 : Int32)))))]))
              refine G1 (XS.icmpNo X335.here hx rfl (hb hby at_343) rfl (teq (own_slot3 p2 g2 g3 (p5 &&& (31 : Int32)) (own_m31 p5) hS0 hS1 hS2 hS3)).2) ?_
              show Gs p e below QQ T335 m 346 #[iv p1, iv p2, iv p3, iv p4, iv p5, iv p6, iv 1, iv 3, iv g2, iv g3, iv ((9 : Int32) + (p6 &&& (7 : Int32))), rv b290, iv (stF p2), iv (P2 p2 g2), iv (P3 p2 g2 g3), iv (p5 &&& (31 : Int32))] []
              refine G1 (XS.aload X335.here hx rfl (hb hby at_346) rfl rfl) ?_
              refine G1 (XS.iload X335.here hx rfl (hb hby at_348) rfl) ?_
              show Goes p e below QQ (T335.setTop (mkF m 350 #[iv p1, iv p2, iv p3, iv p4, iv p5, iv p6, iv 1, iv 3, iv g2, iv g3, iv ((9 : Int32) + (p6 &&& (7 : Int32))), rv b290, iv (stF p2), iv (P2 p2 g2), iv (P3 p2 g2 g3), iv (p5 &&& (31 : Int32))] [(.int (stF p2)), (.ref b290)]))
              obtain ⟨cq336, kq336, q336a, q336b, q336c⟩ := isOf hZ e335 A290_321
              obtain ⟨_, _, ⟨T336, L336, k336, n336⟩, -, X336, ⟨Lc336, hQ336, l336, y336, z336⟩, st336⟩ := X335.virtualBack hx (y := (⟨"com/example/bindery/bindery/PartIndex", "entryAt", "(I)I"⟩ : MethodName)) (z := (⟨"com/example/bindery/bindery/PartIndex", "entryAt", "(I)I"⟩ : MethodName)) hown (mvT hZ (wI hw 24 rfl)) (mvT hZ (wI hw 25 rfl)) (notFace_of_selects (args := #[]) (mvT hZ (wI hw 27 rfl))) (mvT hZ (wI hw 27 rfl)) (mvT hZ (wI hw 26 rfl)) (by decide) (backOf (W := 0) (rmE1 l Z a0 hw [] b290 (stF p2) bd kd S3 (gi S3 (stF p2)) T320.heap n0 (Nat.le_trans Z0 K328.1) slots_a2 Vda2 (own_st p2) (HS3.2 _)) hZ (wI hw 28 rfl) (wI hw 2 rfl) (by decide) (by decide)) q336a q336c (g := (mkF m 350 #[iv p1, iv p2, iv p3, iv p4, iv p5, iv p6, iv 1, iv 3, iv g2, iv g3, iv ((9 : Int32) + (p6 &&& (7 : Int32))), rv b290, iv (stF p2), iv (P2 p2 g2), iv (P3 p2 g2 g3), iv (p5 &&& (31 : Int32))] [(.int (stF p2)), (.ref b290)])) rfl (by rw [hml]; rfl) (Steps.refl _) (argsL := [(.int (stF p2))]) (rest := []) (lenOf pd_1 rfl) rfl (by show 2 * 0 + _ ≤ _; exact Nat.le_of_eq rfl) (hb hby at_350) (fun _ _ => ⟨rfl, e335, (by decide : 3 + 0 ≤ _), (by decide : 52 + 0 ≤ _)⟩)
              dsimp only [Pt.U, Pt.locs, Pt.cells, Pt.slots] at X336 l336 y336 z336 st336 hQ336
              have l336 := l336.symm; have y336 := y336.symm; have z336 := z336.symm; subst l336 y336 z336
              have X336 : Stand p l e room_1 s m #[(.int p1), (.int p2), (.int p3), (.int p4), (.int p5), (.int p6)] below meth c T336 _ 3 52 := X336
              obtain ⟨rfl, M336, e336⟩ := hQ336
              have N336 := Fr.app N335 M336
              refine Goes.on (fun t k => st336.trans k) ?_
              show Goes p e below QQ (T336.setTop (mkF m 353 #[iv p1, iv p2, iv p3, iv p4, iv p5, iv p6, iv 1, iv 3, iv g2, iv g3, iv ((9 : Int32) + (p6 &&& (7 : Int32))), rv b290, iv (stF p2), iv (P2 p2 g2), iv (P3 p2 g2 g3), iv (p5 &&& (31 : Int32))] [(.int (entS (gi S3 (stF p2))))]))
              refine G1 (XS.iload X336.here hx rfl (hb hby at_353) rfl) ?_
              refine G1 (XS.iload X336.here hx rfl (hb hby at_355) rfl) ?_
              refine G1 (XS.iload X336.here hx rfl (hb hby at_357) rfl) ?_
              show Gs p e below QQ T336 m 359 #[iv p1, iv p2, iv p3, iv p4, iv p5, iv p6, iv 1, iv 3, iv g2, iv g3, iv ((9 : Int32) + (p6 &&& (7 : Int32))), rv b290, iv (stF p2), iv (P2 p2 g2), iv (P3 p2 g2 g3), iv (p5 &&& (31 : Int32))] [(.int (stF p2)), (.int 3), (.int (stF p2)), (.int (entS (gi S3 (stF p2))))]
              refine G1 (XS.iload X336.here hx rfl (hb hby at_359) rfl) ?_
              refine G1 (XS.iload X336.here hx rfl (hb hby at_361) rfl) ?_
              show Goes p e below QQ (T336.setTop (mkF m 363 #[iv p1, iv p2, iv p3, iv p4, iv p5, iv p6, iv 1, iv 3, iv g2, iv g3, iv ((9 : Int32) + (p6 &&& (7 : Int32))), rv b290, iv (stF p2), iv (P2 p2 g2), iv (P3 p2 g2 g3), iv (p5 &&& (31 : Int32))] [(.int (P3 p2 g2 g3)), (.int (P2 p2 g2)), (.int (stF p2)), (.int 3), (.int (stF p2)), (.int (entS (gi S3 (stF p2))))]))
              obtain ⟨_, _, ⟨T337, L337, k337, n337⟩, -, X337, ⟨Lc337, hQ337, l337, y337, z337⟩, st337⟩ := Jvm.LawKit.callS X336 hx (y := (⟨"com/example/bindery/bindery/PartIndexEntryAtPinLaw", "slot", "(IIIII)I"⟩ : MethodName)) hown (mvT hZ (wI hw 78 rfl)) (mvT hZ (wI hw 79 rfl)) (mvT hZ (wI hw 35 rfl)) (mvT hZ (wI hw 80 rfl)) (by decide) (backOf (W := 1) (rmSl l Z a0 hw [] (stF p2) (3 : Int32) (stF p2) (P2 p2 g2) (P3 p2 g2 g3) T320.heap n0 (Nat.le_trans Z0 K328.1) ) hZ (wI hw 80 rfl) (wI hw 35 rfl) (by decide) (by decide)) (g := (mkF m 363 #[iv p1, iv p2, iv p3, iv p4, iv p5, iv p6, iv 1, iv 3, iv g2, iv g3, iv ((9 : Int32) + (p6 &&& (7 : Int32))), rv b290, iv (stF p2), iv (P2 p2 g2), iv (P3 p2 g2 g3), iv (p5 &&& (31 : Int32))] [(.int (P3 p2 g2 g3)), (.int (P2 p2 g2)), (.int (stF p2)), (.int 3), (.int (stF p2)), (.int (entS (gi S3 (stF p2))))])) rfl (by rw [hml]; rfl) (argsL := [(.int (stF p2)), (.int 3), (.int (stF p2)), (.int (P2 p2 g2)), (.int (P3 p2 g2 g3))]) (rest := [(.int (entS (gi S3 (stF p2))))]) (lenOf pd_4 rfl) rfl (by show 2 * 0 + _ ≤ _; exact Nat.le_of_eq rfl) (hb hby at_363) (fun _ _ => ⟨rfl, e336, (by decide : 3 + 0 ≤ _), (by decide : 52 + 0 ≤ _)⟩)
              dsimp only [Pt.U, Pt.locs, Pt.cells, Pt.slots] at X337 l337 y337 z337 st337 hQ337
              have l337 := l337.symm; have y337 := y337.symm; have z337 := z337.symm; subst l337 y337 z337
              have X337 : Stand p l e room_1 s m #[(.int p1), (.int p2), (.int p3), (.int p4), (.int p5), (.int p6)] below meth c T337 _ 3 52 := X337
              obtain ⟨rfl, M337, e337⟩ := hQ337
              have N337 := Fr.app N336 M337
              refine Goes.on (fun t k => st337 _ k) ?_
              show Goes p e below QQ (T337.setTop (mkF m 366 #[iv p1, iv p2, iv p3, iv p4, iv p5, iv p6, iv 1, iv 3, iv g2, iv g3, iv ((9 : Int32) + (p6 &&& (7 : Int32))), rv b290, iv (stF p2), iv (P2 p2 g2), iv (P3 p2 g2 g3), iv (p5 &&& (31 : Int32))] [(.int (slotF (stF p2) (3 : Int32) (stF p2) (P2 p2 g2) (P3 p2 g2 g3))), (.int (entS (gi S3 (stF p2))))]))
              refine G1 (XS.icmpNo X337.here hx rfl (hb hby at_366) rfl (teq (own_slot3 p2 g2 g3 (stF p2) (own_st p2) hS0 hS1 hS2 hS3)).2) ?_
              show Gs p e below QQ T337 m 369 #[iv p1, iv p2, iv p3, iv p4, iv p5, iv p6, iv 1, iv 3, iv g2, iv g3, iv ((9 : Int32) + (p6 &&& (7 : Int32))), rv b290, iv (stF p2), iv (P2 p2 g2), iv (P3 p2 g2 g3), iv (p5 &&& (31 : Int32))] []
              refine G1 (XS.aload X337.here hx rfl (hb hby at_369) rfl rfl) ?_
              refine G1 (XS.iload X337.here hx rfl (hb hby at_371) rfl) ?_
              show Goes p e below QQ (T337.setTop (mkF m 373 #[iv p1, iv p2, iv p3, iv p4, iv p5, iv p6, iv 1, iv 3, iv g2, iv g3, iv ((9 : Int32) + (p6 &&& (7 : Int32))), rv b290, iv (stF p2), iv (P2 p2 g2), iv (P3 p2 g2 g3), iv (p5 &&& (31 : Int32))] [(.int (P2 p2 g2)), (.ref b290)]))
              obtain ⟨cq338, kq338, q338a, q338b, q338c⟩ := isOf hZ e337 A290_321
              obtain ⟨_, _, ⟨T338, L338, k338, n338⟩, -, X338, ⟨Lc338, hQ338, l338, y338, z338⟩, st338⟩ := X337.virtualBack hx (y := (⟨"com/example/bindery/bindery/PartIndex", "entryAt", "(I)I"⟩ : MethodName)) (z := (⟨"com/example/bindery/bindery/PartIndex", "entryAt", "(I)I"⟩ : MethodName)) hown (mvT hZ (wI hw 24 rfl)) (mvT hZ (wI hw 25 rfl)) (notFace_of_selects (args := #[]) (mvT hZ (wI hw 27 rfl))) (mvT hZ (wI hw 27 rfl)) (mvT hZ (wI hw 26 rfl)) (by decide) (backOf (W := 0) (rmE1 l Z a0 hw [] b290 (P2 p2 g2) bd kd S3 (gi S3 (P2 p2 g2)) T320.heap n0 (Nat.le_trans Z0 K328.1) slots_a2 Vda2 (own_P2 p2 g2).1 (HS3.2 _)) hZ (wI hw 28 rfl) (wI hw 2 rfl) (by decide) (by decide)) q338a q338c (g := (mkF m 373 #[iv p1, iv p2, iv p3, iv p4, iv p5, iv p6, iv 1, iv 3, iv g2, iv g3, iv ((9 : Int32) + (p6 &&& (7 : Int32))), rv b290, iv (stF p2), iv (P2 p2 g2), iv (P3 p2 g2 g3), iv (p5 &&& (31 : Int32))] [(.int (P2 p2 g2)), (.ref b290)])) rfl (by rw [hml]; rfl) (Steps.refl _) (argsL := [(.int (P2 p2 g2))]) (rest := []) (lenOf pd_1 rfl) rfl (by show 2 * 0 + _ ≤ _; exact Nat.le_of_eq rfl) (hb hby at_373) (fun _ _ => ⟨rfl, e337, (by decide : 3 + 0 ≤ _), (by decide : 52 + 0 ≤ _)⟩)
              dsimp only [Pt.U, Pt.locs, Pt.cells, Pt.slots] at X338 l338 y338 z338 st338 hQ338
              have l338 := l338.symm; have y338 := y338.symm; have z338 := z338.symm; subst l338 y338 z338
              have X338 : Stand p l e room_1 s m #[(.int p1), (.int p2), (.int p3), (.int p4), (.int p5), (.int p6)] below meth c T338 _ 3 52 := X338
              obtain ⟨rfl, M338, e338⟩ := hQ338
              have N338 := Fr.app N337 M338
              refine Goes.on (fun t k => st338.trans k) ?_
              show Goes p e below QQ (T338.setTop (mkF m 376 #[iv p1, iv p2, iv p3, iv p4, iv p5, iv p6, iv 1, iv 3, iv g2, iv g3, iv ((9 : Int32) + (p6 &&& (7 : Int32))), rv b290, iv (stF p2), iv (P2 p2 g2), iv (P3 p2 g2 g3), iv (p5 &&& (31 : Int32))] [(.int (entS (gi S3 (P2 p2 g2))))]))
              refine G1 (XS.iload X338.here hx rfl (hb hby at_376) rfl) ?_
              refine G1 (XS.iload X338.here hx rfl (hb hby at_378) rfl) ?_
              refine G1 (XS.iload X338.here hx rfl (hb hby at_380) rfl) ?_
              show Gs p e below QQ T338 m 382 #[iv p1, iv p2, iv p3, iv p4, iv p5, iv p6, iv 1, iv 3, iv g2, iv g3, iv ((9 : Int32) + (p6 &&& (7 : Int32))), rv b290, iv (stF p2), iv (P2 p2 g2), iv (P3 p2 g2 g3), iv (p5 &&& (31 : Int32))] [(.int (stF p2)), (.int 3), (.int (P2 p2 g2)), (.int (entS (gi S3 (P2 p2 g2))))]
              refine G1 (XS.iload X338.here hx rfl (hb hby at_382) rfl) ?_
              refine G1 (XS.iload X338.here hx rfl (hb hby at_384) rfl) ?_
              show Goes p e below QQ (T338.setTop (mkF m 386 #[iv p1, iv p2, iv p3, iv p4, iv p5, iv p6, iv 1, iv 3, iv g2, iv g3, iv ((9 : Int32) + (p6 &&& (7 : Int32))), rv b290, iv (stF p2), iv (P2 p2 g2), iv (P3 p2 g2 g3), iv (p5 &&& (31 : Int32))] [(.int (P3 p2 g2 g3)), (.int (P2 p2 g2)), (.int (stF p2)), (.int 3), (.int (P2 p2 g2)), (.int (entS (gi S3 (P2 p2 g2))))]))
              obtain ⟨_, _, ⟨T339, L339, k339, n339⟩, -, X339, ⟨Lc339, hQ339, l339, y339, z339⟩, st339⟩ := Jvm.LawKit.callS X338 hx (y := (⟨"com/example/bindery/bindery/PartIndexEntryAtPinLaw", "slot", "(IIIII)I"⟩ : MethodName)) hown (mvT hZ (wI hw 78 rfl)) (mvT hZ (wI hw 79 rfl)) (mvT hZ (wI hw 35 rfl)) (mvT hZ (wI hw 80 rfl)) (by decide) (backOf (W := 1) (rmSl l Z a0 hw [] (P2 p2 g2) (3 : Int32) (stF p2) (P2 p2 g2) (P3 p2 g2 g3) T320.heap n0 (Nat.le_trans Z0 K328.1) ) hZ (wI hw 80 rfl) (wI hw 35 rfl) (by decide) (by decide)) (g := (mkF m 386 #[iv p1, iv p2, iv p3, iv p4, iv p5, iv p6, iv 1, iv 3, iv g2, iv g3, iv ((9 : Int32) + (p6 &&& (7 : Int32))), rv b290, iv (stF p2), iv (P2 p2 g2), iv (P3 p2 g2 g3), iv (p5 &&& (31 : Int32))] [(.int (P3 p2 g2 g3)), (.int (P2 p2 g2)), (.int (stF p2)), (.int 3), (.int (P2 p2 g2)), (.int (entS (gi S3 (P2 p2 g2))))])) rfl (by rw [hml]; rfl) (argsL := [(.int (P2 p2 g2)), (.int 3), (.int (stF p2)), (.int (P2 p2 g2)), (.int (P3 p2 g2 g3))]) (rest := [(.int (entS (gi S3 (P2 p2 g2))))]) (lenOf pd_4 rfl) rfl (by show 2 * 0 + _ ≤ _; exact Nat.le_of_eq rfl) (hb hby at_386) (fun _ _ => ⟨rfl, e338, (by decide : 3 + 0 ≤ _), (by decide : 52 + 0 ≤ _)⟩)
              dsimp only [Pt.U, Pt.locs, Pt.cells, Pt.slots] at X339 l339 y339 z339 st339 hQ339
              have l339 := l339.symm; have y339 := y339.symm; have z339 := z339.symm; subst l339 y339 z339
              have X339 : Stand p l e room_1 s m #[(.int p1), (.int p2), (.int p3), (.int p4), (.int p5), (.int p6)] below meth c T339 _ 3 52 := X339
              obtain ⟨rfl, M339, e339⟩ := hQ339
              have N339 := Fr.app N338 M339
              refine Goes.on (fun t k => st339 _ k) ?_
              show Goes p e below QQ (T339.setTop (mkF m 389 #[iv p1, iv p2, iv p3, iv p4, iv p5, iv p6, iv 1, iv 3, iv g2, iv g3, iv ((9 : Int32) + (p6 &&& (7 : Int32))), rv b290, iv (stF p2), iv (P2 p2 g2), iv (P3 p2 g2 g3), iv (p5 &&& (31 : Int32))] [(.int (slotF (P2 p2 g2) (3 : Int32) (stF p2) (P2 p2 g2) (P3 p2 g2 g3))), (.int (entS (gi S3 (P2 p2 g2))))]))
              refine G1 (XS.icmpNo X339.here hx rfl (hb hby at_389) rfl (teq (own_slot3 p2 g2 g3 (P2 p2 g2) (own_P2 p2 g2).1 hS0 hS1 hS2 hS3)).2) ?_
              show Gs p e below QQ T339 m 392 #[iv p1, iv p2, iv p3, iv p4, iv p5, iv p6, iv 1, iv 3, iv g2, iv g3, iv ((9 : Int32) + (p6 &&& (7 : Int32))), rv b290, iv (stF p2), iv (P2 p2 g2), iv (P3 p2 g2 g3), iv (p5 &&& (31 : Int32))] []
              refine G1 (XS.aload X339.here hx rfl (hb hby at_392) rfl rfl) ?_
              refine G1 (XS.iload X339.here hx rfl (hb hby at_394) rfl) ?_
              show Goes p e below QQ (T339.setTop (mkF m 396 #[iv p1, iv p2, iv p3, iv p4, iv p5, iv p6, iv 1, iv 3, iv g2, iv g3, iv ((9 : Int32) + (p6 &&& (7 : Int32))), rv b290, iv (stF p2), iv (P2 p2 g2), iv (P3 p2 g2 g3), iv (p5 &&& (31 : Int32))] [(.int (P3 p2 g2 g3)), (.ref b290)]))
              obtain ⟨cq340, kq340, q340a, q340b, q340c⟩ := isOf hZ e339 A290_321
              obtain ⟨_, _, ⟨T340, L340, k340, n340⟩, -, X340, ⟨Lc340, hQ340, l340, y340, z340⟩, st340⟩ := X339.virtualBack hx (y := (⟨"com/example/bindery/bindery/PartIndex", "entryAt", "(I)I"⟩ : MethodName)) (z := (⟨"com/example/bindery/bindery/PartIndex", "entryAt", "(I)I"⟩ : MethodName)) hown (mvT hZ (wI hw 24 rfl)) (mvT hZ (wI hw 25 rfl)) (notFace_of_selects (args := #[]) (mvT hZ (wI hw 27 rfl))) (mvT hZ (wI hw 27 rfl)) (mvT hZ (wI hw 26 rfl)) (by decide) (backOf (W := 0) (rmE1 l Z a0 hw [] b290 (P3 p2 g2 g3) bd kd S3 (gi S3 (P3 p2 g2 g3)) T320.heap n0 (Nat.le_trans Z0 K328.1) slots_a2 Vda2 (own_P3 p2 g2 g3).1 (HS3.2 _)) hZ (wI hw 28 rfl) (wI hw 2 rfl) (by decide) (by decide)) q340a q340c (g := (mkF m 396 #[iv p1, iv p2, iv p3, iv p4, iv p5, iv p6, iv 1, iv 3, iv g2, iv g3, iv ((9 : Int32) + (p6 &&& (7 : Int32))), rv b290, iv (stF p2), iv (P2 p2 g2), iv (P3 p2 g2 g3), iv (p5 &&& (31 : Int32))] [(.int (P3 p2 g2 g3)), (.ref b290)])) rfl (by rw [hml]; rfl) (Steps.refl _) (argsL := [(.int (P3 p2 g2 g3))]) (rest := []) (lenOf pd_1 rfl) rfl (by show 2 * 0 + _ ≤ _; exact Nat.le_of_eq rfl) (hb hby at_396) (fun _ _ => ⟨rfl, e339, (by decide : 3 + 0 ≤ _), (by decide : 52 + 0 ≤ _)⟩)
              dsimp only [Pt.U, Pt.locs, Pt.cells, Pt.slots] at X340 l340 y340 z340 st340 hQ340
              have l340 := l340.symm; have y340 := y340.symm; have z340 := z340.symm; subst l340 y340 z340
              have X340 : Stand p l e room_1 s m #[(.int p1), (.int p2), (.int p3), (.int p4), (.int p5), (.int p6)] below meth c T340 _ 3 52 := X340
              obtain ⟨rfl, M340, e340⟩ := hQ340
              have N340 := Fr.app N339 M340
              refine Goes.on (fun t k => st340.trans k) ?_
              show Goes p e below QQ (T340.setTop (mkF m 399 #[iv p1, iv p2, iv p3, iv p4, iv p5, iv p6, iv 1, iv 3, iv g2, iv g3, iv ((9 : Int32) + (p6 &&& (7 : Int32))), rv b290, iv (stF p2), iv (P2 p2 g2), iv (P3 p2 g2 g3), iv (p5 &&& (31 : Int32))] [(.int (entS (gi S3 (P3 p2 g2 g3))))]))
              refine G1 (XS.iload X340.here hx rfl (hb hby at_399) rfl) ?_
              refine G1 (XS.iload X340.here hx rfl (hb hby at_401) rfl) ?_
              refine G1 (XS.iload X340.here hx rfl (hb hby at_403) rfl) ?_
              show Gs p e below QQ T340 m 405 #[iv p1, iv p2, iv p3, iv p4, iv p5, iv p6, iv 1, iv 3, iv g2, iv g3, iv ((9 : Int32) + (p6 &&& (7 : Int32))), rv b290, iv (stF p2), iv (P2 p2 g2), iv (P3 p2 g2 g3), iv (p5 &&& (31 : Int32))] [(.int (stF p2)), (.int 3), (.int (P3 p2 g2 g3)), (.int (entS (gi S3 (P3 p2 g2 g3))))]
              refine G1 (XS.iload X340.here hx rfl (hb hby at_405) rfl) ?_
              refine G1 (XS.iload X340.here hx rfl (hb hby at_407) rfl) ?_
              show Goes p e below QQ (T340.setTop (mkF m 409 #[iv p1, iv p2, iv p3, iv p4, iv p5, iv p6, iv 1, iv 3, iv g2, iv g3, iv ((9 : Int32) + (p6 &&& (7 : Int32))), rv b290, iv (stF p2), iv (P2 p2 g2), iv (P3 p2 g2 g3), iv (p5 &&& (31 : Int32))] [(.int (P3 p2 g2 g3)), (.int (P2 p2 g2)), (.int (stF p2)), (.int 3), (.int (P3 p2 g2 g3)), (.int (entS (gi S3 (P3 p2 g2 g3))))]))
              obtain ⟨_, _, ⟨T341, L341, k341, n341⟩, -, X341, ⟨Lc341, hQ341, l341, y341, z341⟩, st341⟩ := Jvm.LawKit.callS X340 hx (y := (⟨"com/example/bindery/bindery/PartIndexEntryAtPinLaw", "slot", "(IIIII)I"⟩ : MethodName)) hown (mvT hZ (wI hw 78 rfl)) (mvT hZ (wI hw 79 rfl)) (mvT hZ (wI hw 35 rfl)) (mvT hZ (wI hw 80 rfl)) (by decide) (backOf (W := 1) (rmSl l Z a0 hw [] (P3 p2 g2 g3) (3 : Int32) (stF p2) (P2 p2 g2) (P3 p2 g2 g3) T320.heap n0 (Nat.le_trans Z0 K328.1) ) hZ (wI hw 80 rfl) (wI hw 35 rfl) (by decide) (by decide)) (g := (mkF m 409 #[iv p1, iv p2, iv p3, iv p4, iv p5, iv p6, iv 1, iv 3, iv g2, iv g3, iv ((9 : Int32) + (p6 &&& (7 : Int32))), rv b290, iv (stF p2), iv (P2 p2 g2), iv (P3 p2 g2 g3), iv (p5 &&& (31 : Int32))] [(.int (P3 p2 g2 g3)), (.int (P2 p2 g2)), (.int (stF p2)), (.int 3), (.int (P3 p2 g2 g3)), (.int (entS (gi S3 (P3 p2 g2 g3))))])) rfl (by rw [hml]; rfl) (argsL := [(.int (P3 p2 g2 g3)), (.int 3), (.int (stF p2)), (.int (P2 p2 g2)), (.int (P3 p2 g2 g3))]) (rest := [(.int (entS (gi S3 (P3 p2 g2 g3))))]) (lenOf pd_4 rfl) rfl (by show 2 * 0 + _ ≤ _; exact Nat.le_of_eq rfl) (hb hby at_409) (fun _ _ => ⟨rfl, e340, (by decide : 3 + 0 ≤ _), (by decide : 52 + 0 ≤ _)⟩)
              dsimp only [Pt.U, Pt.locs, Pt.cells, Pt.slots] at X341 l341 y341 z341 st341 hQ341
              have l341 := l341.symm; have y341 := y341.symm; have z341 := z341.symm; subst l341 y341 z341
              have X341 : Stand p l e room_1 s m #[(.int p1), (.int p2), (.int p3), (.int p4), (.int p5), (.int p6)] below meth c T341 _ 3 52 := X341
              obtain ⟨rfl, M341, e341⟩ := hQ341
              have N341 := Fr.app N340 M341
              refine Goes.on (fun t k => st341 _ k) ?_
              show Goes p e below QQ (T341.setTop (mkF m 412 #[iv p1, iv p2, iv p3, iv p4, iv p5, iv p6, iv 1, iv 3, iv g2, iv g3, iv ((9 : Int32) + (p6 &&& (7 : Int32))), rv b290, iv (stF p2), iv (P2 p2 g2), iv (P3 p2 g2 g3), iv (p5 &&& (31 : Int32))] [(.int (slotF (P3 p2 g2 g3) (3 : Int32) (stF p2) (P2 p2 g2) (P3 p2 g2 g3))), (.int (entS (gi S3 (P3 p2 g2 g3))))]))
              refine G1 (XS.icmpNo X341.here hx rfl (hb hby at_412) rfl (teq (own_slot3 p2 g2 g3 (P3 p2 g2 g3) (own_P3 p2 g2 g3).1 hS0 hS1 hS2 hS3)).2) ?_
              show Gs p e below QQ T341 m 415 #[iv p1, iv p2, iv p3, iv p4, iv p5, iv p6, iv 1, iv 3, iv g2, iv g3, iv ((9 : Int32) + (p6 &&& (7 : Int32))), rv b290, iv (stF p2), iv (P2 p2 g2), iv (P3 p2 g2 g3), iv (p5 &&& (31 : Int32))] []
              refine G1 (XS.iconst X341.here hx rfl (hb hby at_415)) ?_
              refine G1 (XS.goto X341.here hx rfl (pc0 := 416) (pc' := 420) rfl (hb hby at_416) (by decide) (by decide)) ?_
              show Goes p e below QQ (T341.setTop (mkF m 420 #[iv p1, iv p2, iv p3, iv p4, iv p5, iv p6, iv 1, iv 3, iv g2, iv g3, iv ((9 : Int32) + (p6 &&& (7 : Int32))), rv b290, iv (stF p2), iv (P2 p2 g2), iv (P3 p2 g2 g3), iv (p5 &&& (31 : Int32))] [(.int 1)]))
              exact Goes.rN X341 hx (t := .boolean) hret (by simp) hlk (hb hby at_420) hQQ ⟨rfl, N341⟩ (by decide) (by decide)
            show Goes p e below QQ (T332.setTop (mkF m 274 #[iv p1, iv p2, iv p3, iv p4, iv p5, iv p6, iv 1, iv 3, iv g2, iv g3, iv ((9 : Int32) + (p6 &&& (7 : Int32))), rv b290, iv (stF p2), iv (if (stF g2) = (stF p2) then (((stF g2) + (1 : Int32)) &&& (31 : Int32)) else (stF g2)), iv (stF g3), .unset] [(.int (stF p2)), (.int (stF g3))]))
            by_cases hb342 : (stF g3) = (stF p2)
            · refine G1 (XS.icmpYes X332.here hx rfl (pc0 := 274) (pc' := 284) rfl (hb hby at_274) rfl (teq hb342).1 (by decide) (by decide)) ?_
              show Gs p e below QQ T332 m 284 #[iv p1, iv p2, iv p3, iv p4, iv p5, iv p6, iv 1, iv 3, iv g2, iv g3, iv ((9 : Int32) + (p6 &&& (7 : Int32))), rv b290, iv (stF p2), iv (if (stF g2) = (stF p2) then (((stF g2) + (1 : Int32)) &&& (31 : Int32)) else (stF g2)), iv (stF g3), .unset] []
              refine G1 (XS.iload X332.here hx rfl (hb hby at_284) rfl) ?_
              refine G1 (XS.iconst X332.here hx rfl (hb hby at_286)) ?_
              show Gs p e below QQ T332 m 287 #[iv p1, iv p2, iv p3, iv p4, iv p5, iv p6, iv 1, iv 3, iv g2, iv g3, iv ((9 : Int32) + (p6 &&& (7 : Int32))), rv b290, iv (stF p2), iv (if (stF g2) = (stF p2) then (((stF g2) + (1 : Int32)) &&& (31 : Int32)) else (stF g2)), iv (stF g3), .unset] [(.int 1), (.int (stF g3))]
              refine G1 (XS.iadd X332.here hx rfl (hb hby at_287) rfl) ?_
              show Gs p e below QQ T332 m 288 #[iv p1, iv p2, iv p3, iv p4, iv p5, iv p6, iv 1, iv 3, iv g2, iv g3, iv ((9 : Int32) + (p6 &&& (7 : Int32))), rv b290, iv (stF p2), iv (if (stF g2) = (stF p2) then (((stF g2) + (1 : Int32)) &&& (31 : Int32)) else (stF g2)), iv (stF g3), .unset] [(.int ((stF g3) + (1 : Int32)))]
              refine G1 (XS.bipush X332.here hx rfl (hb hby at_288)) ?_
              show Gs p e below QQ T332 m 290 #[iv p1, iv p2, iv p3, iv p4, iv p5, iv p6, iv 1, iv 3, iv g2, iv g3, iv ((9 : Int32) + (p6 &&& (7 : Int32))), rv b290, iv (stF p2), iv (if (stF g2) = (stF p2) then (((stF g2) + (1 : Int32)) &&& (31 : Int32)) else (stF g2)), iv (stF g3), .unset] [(.int 31), (.int ((stF g3) + (1 : Int32)))]
              refine G1 (XS.iand X332.here hx rfl (hb hby at_290) rfl) ?_
              show Gs p e below QQ T332 m 291 #[iv p1, iv p2, iv p3, iv p4, iv p5, iv p6, iv 1, iv 3, iv g2, iv g3, iv ((9 : Int32) + (p6 &&& (7 : Int32))), rv b290, iv (stF p2), iv (if (stF g2) = (stF p2) then (((stF g2) + (1 : Int32)) &&& (31 : Int32)) else (stF g2)), iv (stF g3), .unset] [(.int (((stF g3) + (1 : Int32)) &&& (31 : Int32)))]
              refine G1 (XS.istore X332.here hx rfl (hb hby at_291) rfl (l' := #[iv p1, iv p2, iv p3, iv p4, iv p5, iv p6, iv 1, iv 3, iv g2, iv g3, iv ((9 : Int32) + (p6 &&& (7 : Int32))), rv b290, iv (stF p2), iv (if (stF g2) = (stF p2) then (((stF g2) + (1 : Int32)) &&& (31 : Int32)) else (stF g2)), iv (((stF g3) + (1 : Int32)) &&& (31 : Int32)), .unset]) rfl) ?_
              refine G1 (XS.iload X332.here hx rfl (hb hby at_293) rfl) ?_
              refine G1 (XS.iload X332.here hx rfl (hb hby at_295) rfl) ?_
              show Goes p e below QQ (T332.setTop (mkF m 297 #[iv p1, iv p2, iv p3, iv p4, iv p5, iv p6, iv 1, iv 3, iv g2, iv g3, iv ((9 : Int32) + (p6 &&& (7 : Int32))), rv b290, iv (stF p2), iv (if (stF g2) = (stF p2) then (((stF g2) + (1 : Int32)) &&& (31 : Int32)) else (stF g2)), iv (((stF g3) + (1 : Int32)) &&& (31 : Int32)), .unset] [(.int (stF p2)), (.int (((stF g3) + (1 : Int32)) &&& (31 : Int32)))]))
              by_cases hb343 : (((stF g3) + (1 : Int32)) &&& (31 : Int32)) = (stF p2)
              · refine G1 (XS.icmpYes X332.here hx rfl (pc0 := 297) (pc' := 307) rfl (hb hby at_297) rfl (teq hb343).1 (by decide) (by decide)) ?_
                show Gs p e below QQ T332 m 307 #[iv p1, iv p2, iv p3, iv p4, iv p5, iv p6, iv 1, iv 3, iv g2, iv g3, iv ((9 : Int32) + (p6 &&& (7 : Int32))), rv b290, iv (stF p2), iv (if (stF g2) = (stF p2) then (((stF g2) + (1 : Int32)) &&& (31 : Int32)) else (stF g2)), iv (((stF g3) + (1 : Int32)) &&& (31 : Int32)), .unset] []
                refine G1 (XS.iload X332.here hx rfl (hb hby at_307) rfl) ?_
                refine G1 (XS.iconst X332.here hx rfl (hb hby at_309)) ?_
                show Gs p e below QQ T332 m 310 #[iv p1, iv p2, iv p3, iv p4, iv p5, iv p6, iv 1, iv 3, iv g2, iv g3, iv ((9 : Int32) + (p6 &&& (7 : Int32))), rv b290, iv (stF p2), iv (if (stF g2) = (stF p2) then (((stF g2) + (1 : Int32)) &&& (31 : Int32)) else (stF g2)), iv (((stF g3) + (1 : Int32)) &&& (31 : Int32)), .unset] [(.int 1), (.int (((stF g3) + (1 : Int32)) &&& (31 : Int32)))]
                refine G1 (XS.iadd X332.here hx rfl (hb hby at_310) rfl) ?_
                show Gs p e below QQ T332 m 311 #[iv p1, iv p2, iv p3, iv p4, iv p5, iv p6, iv 1, iv 3, iv g2, iv g3, iv ((9 : Int32) + (p6 &&& (7 : Int32))), rv b290, iv (stF p2), iv (if (stF g2) = (stF p2) then (((stF g2) + (1 : Int32)) &&& (31 : Int32)) else (stF g2)), iv (((stF g3) + (1 : Int32)) &&& (31 : Int32)), .unset] [(.int ((((stF g3) + (1 : Int32)) &&& (31 : Int32)) + (1 : Int32)))]
                refine G1 (XS.bipush X332.here hx rfl (hb hby at_311)) ?_
                show Gs p e below QQ T332 m 313 #[iv p1, iv p2, iv p3, iv p4, iv p5, iv p6, iv 1, iv 3, iv g2, iv g3, iv ((9 : Int32) + (p6 &&& (7 : Int32))), rv b290, iv (stF p2), iv (if (stF g2) = (stF p2) then (((stF g2) + (1 : Int32)) &&& (31 : Int32)) else (stF g2)), iv (((stF g3) + (1 : Int32)) &&& (31 : Int32)), .unset] [(.int 31), (.int ((((stF g3) + (1 : Int32)) &&& (31 : Int32)) + (1 : Int32)))]
                refine G1 (XS.iand X332.here hx rfl (hb hby at_313) rfl) ?_
                show Gs p e below QQ T332 m 314 #[iv p1, iv p2, iv p3, iv p4, iv p5, iv p6, iv 1, iv 3, iv g2, iv g3, iv ((9 : Int32) + (p6 &&& (7 : Int32))), rv b290, iv (stF p2), iv (if (stF g2) = (stF p2) then (((stF g2) + (1 : Int32)) &&& (31 : Int32)) else (stF g2)), iv (((stF g3) + (1 : Int32)) &&& (31 : Int32)), .unset] [(.int (((((stF g3) + (1 : Int32)) &&& (31 : Int32)) + (1 : Int32)) &&& (31 : Int32)))]
                refine G1 (XS.istore X332.here hx rfl (hb hby at_314) rfl (l' := #[iv p1, iv p2, iv p3, iv p4, iv p5, iv p6, iv 1, iv 3, iv g2, iv g3, iv ((9 : Int32) + (p6 &&& (7 : Int32))), rv b290, iv (stF p2), iv (if (stF g2) = (stF p2) then (((stF g2) + (1 : Int32)) &&& (31 : Int32)) else (stF g2)), iv (((((stF g3) + (1 : Int32)) &&& (31 : Int32)) + (1 : Int32)) &&& (31 : Int32)), .unset]) rfl) ?_
                show Goes p e below QQ (T332.setTop (mkF m 316 #[iv p1, iv p2, iv p3, iv p4, iv p5, iv p6, iv 1, iv 3, iv g2, iv g3, iv ((9 : Int32) + (p6 &&& (7 : Int32))), rv b290, iv (stF p2), iv (if (stF g2) = (stF p2) then (((stF g2) + (1 : Int32)) &&& (31 : Int32)) else (stF g2)), iv (((((stF g3) + (1 : Int32)) &&& (31 : Int32)) + (1 : Int32)) &&& (31 : Int32)), .unset] []))
                rw [(((if_pos hb342).trans ((if_pos hb343).trans rfl)) : (if (stF g3) = (stF p2) then (if (((stF g3) + (1 : Int32)) &&& (31 : Int32)) = (stF p2) then (((((stF g3) + (1 : Int32)) &&& (31 : Int32)) + (1 : Int32)) &&& (31 : Int32)) else (if (((stF g3) + (1 : Int32)) &&& (31 : Int32)) = (if (stF g2) = (stF p2) then (((stF g2) + (1 : Int32)) &&& (31 : Int32)) else (stF g2)) then (((((stF g3) + (1 : Int32)) &&& (31 : Int32)) + (1 : Int32)) &&& (31 : Int32)) else (((stF g3) + (1 : Int32)) &&& (31 : Int32)))) else (if (stF g3) = (if (stF g2) = (stF p2) then (((stF g2) + (1 : Int32)) &&& (31 : Int32)) else (stF g2)) then (if (((stF g3) + (1 : Int32)) &&& (31 : Int32)) = (stF p2) then (((((stF g3) + (1 : Int32)) &&& (31 : Int32)) + (1 : Int32)) &&& (31 : Int32)) else (if (((stF g3) + (1 : Int32)) &&& (31 : Int32)) = (if (stF g2) = (stF p2) then (((stF g2) + (1 : Int32)) &&& (31 : Int32)) else (stF g2)) then (((((stF g3) + (1 : Int32)) &&& (31 : Int32)) + (1 : Int32)) &&& (31 : Int32)) else (((stF g3) + (1 : Int32)) &&& (31 : Int32)))) else (stF g3))) = (((((stF g3) + (1 : Int32)) &&& (31 : Int32)) + (1 : Int32)) &&& (31 : Int32)))] at J333
                exact J333 _ _ X332 e332 N332
              · refine G1 (XS.icmpNo X332.here hx rfl (hb hby at_297) rfl (feq hb343).1) ?_
                show Gs p e below QQ T332 m 300 #[iv p1, iv p2, iv p3, iv p4, iv p5, iv p6, iv 1, iv 3, iv g2, iv g3, iv ((9 : Int32) + (p6 &&& (7 : Int32))), rv b290, iv (stF p2), iv (if (stF g2) = (stF p2) then (((stF g2) + (1 : Int32)) &&& (31 : Int32)) else (stF g2)), iv (((stF g3) + (1 : Int32)) &&& (31 : Int32)), .unset] []
                refine G1 (XS.iload X332.here hx rfl (hb hby at_300) rfl) ?_
                refine G1 (XS.iload X332.here hx rfl (hb hby at_302) rfl) ?_
                show Goes p e below QQ (T332.setTop (mkF m 304 #[iv p1, iv p2, iv p3, iv p4, iv p5, iv p6, iv 1, iv 3, iv g2, iv g3, iv ((9 : Int32) + (p6 &&& (7 : Int32))), rv b290, iv (stF p2), iv (if (stF g2) = (stF p2) then (((stF g2) + (1 : Int32)) &&& (31 : Int32)) else (stF g2)), iv (((stF g3) + (1 : Int32)) &&& (31 : Int32)), .unset] [(.int (if (stF g2) = (stF p2) then (((stF g2) + (1 : Int32)) &&& (31 : Int32)) else (stF g2))), (.int (((stF g3) + (1 : Int32)) &&& (31 : Int32)))]))
                by_cases hb344 : (((stF g3) + (1 : Int32)) &&& (31 : Int32)) = (if (stF g2) = (stF p2) then (((stF g2) + (1 : Int32)) &&& (31 : Int32)) else (stF g2))
                · refine G1 (XS.icmpNo X332.here hx rfl (hb hby at_304) rfl (teq hb344).2) ?_
                  show Gs p e below QQ T332 m 307 #[iv p1, iv p2, iv p3, iv p4, iv p5, iv p6, iv 1, iv 3, iv g2, iv g3, iv ((9 : Int32) + (p6 &&& (7 : Int32))), rv b290, iv (stF p2), iv (if (stF g2) = (stF p2) then (((stF g2) + (1 : Int32)) &&& (31 : Int32)) else (stF g2)), iv (((stF g3) + (1 : Int32)) &&& (31 : Int32)), .unset] []
                  refine G1 (XS.iload X332.here hx rfl (hb hby at_307) rfl) ?_
                  refine G1 (XS.iconst X332.here hx rfl (hb hby at_309)) ?_
                  show Gs p e below QQ T332 m 310 #[iv p1, iv p2, iv p3, iv p4, iv p5, iv p6, iv 1, iv 3, iv g2, iv g3, iv ((9 : Int32) + (p6 &&& (7 : Int32))), rv b290, iv (stF p2), iv (if (stF g2) = (stF p2) then (((stF g2) + (1 : Int32)) &&& (31 : Int32)) else (stF g2)), iv (((stF g3) + (1 : Int32)) &&& (31 : Int32)), .unset] [(.int 1), (.int (((stF g3) + (1 : Int32)) &&& (31 : Int32)))]
                  refine G1 (XS.iadd X332.here hx rfl (hb hby at_310) rfl) ?_
                  show Gs p e below QQ T332 m 311 #[iv p1, iv p2, iv p3, iv p4, iv p5, iv p6, iv 1, iv 3, iv g2, iv g3, iv ((9 : Int32) + (p6 &&& (7 : Int32))), rv b290, iv (stF p2), iv (if (stF g2) = (stF p2) then (((stF g2) + (1 : Int32)) &&& (31 : Int32)) else (stF g2)), iv (((stF g3) + (1 : Int32)) &&& (31 : Int32)), .unset] [(.int ((((stF g3) + (1 : Int32)) &&& (31 : Int32)) + (1 : Int32)))]
                  refine G1 (XS.bipush X332.here hx rfl (hb hby at_311)) ?_
                  show Gs p e below QQ T332 m 313 #[iv p1, iv p2, iv p3, iv p4, iv p5, iv p6, iv 1, iv 3, iv g2, iv g3, iv ((9 : Int32) + (p6 &&& (7 : Int32))), rv b290, iv (stF p2), iv (if (stF g2) = (stF p2) then (((stF g2) + (1 : Int32)) &&& (31 : Int32)) else (stF g2)), iv (((stF g3) + (1 : Int32)) &&& (31 : Int32)), .unset] [(.int 31), (.int ((((stF g3) + (1 : Int32)) &&& (31 : Int32)) + (1 : Int32)))]
                  refine G1 (XS.iand X332.here hx rfl (hb hby at_313) rfl) ?_
                  show Gs p e below QQ T332 m 314 #[iv p1, iv p2, iv p3, iv p4, iv p5, iv p6, iv 1, iv 3, iv g2, iv g3, iv ((9 : Int32) + (p6 &&& (7 : Int32))), rv b290, iv (stF p2), iv (if (stF g2) = (stF p2) then (((stF g2) + (1 : Int32)) &&& (31 : Int32)) else (stF g2)), iv (((stF g3) + (1 : Int32)) &&& (31 : Int32)), .unset] [(.int (((((stF g3) + (1 : Int32)) &&& (31 : Int32)) + (1 : Int32)) &&& (31 : Int32)))]
                  refine G1 (XS.istore X332.here hx rfl (hb hby at_314) rfl (l' := #[iv p1, iv p2, iv p3, iv p4, iv p5, iv p6, iv 1, iv 3, iv g2, iv g3, iv ((9 : Int32) + (p6 &&& (7 : Int32))), rv b290, iv (stF p2), iv (if (stF g2) = (stF p2) then (((stF g2) + (1 : Int32)) &&& (31 : Int32)) else (stF g2)), iv (((((stF g3) + (1 : Int32)) &&& (31 : Int32)) + (1 : Int32)) &&& (31 : Int32)), .unset]) rfl) ?_
                  show Goes p e below QQ (T332.setTop (mkF m 316 #[iv p1, iv p2, iv p3, iv p4, iv p5, iv p6, iv 1, iv 3, iv g2, iv g3, iv ((9 : Int32) + (p6 &&& (7 : Int32))), rv b290, iv (stF p2), iv (if (stF g2) = (stF p2) then (((stF g2) + (1 : Int32)) &&& (31 : Int32)) else (stF g2)), iv (((((stF g3) + (1 : Int32)) &&& (31 : Int32)) + (1 : Int32)) &&& (31 : Int32)), .unset] []))
                  rw [(((if_pos hb342).trans ((if_neg hb343).trans ((if_pos hb344).trans rfl))) : (if (stF g3) = (stF p2) then (if (((stF g3) + (1 : Int32)) &&& (31 : Int32)) = (stF p2) then (((((stF g3) + (1 : Int32)) &&& (31 : Int32)) + (1 : Int32)) &&& (31 : Int32)) else (if (((stF g3) + (1 : Int32)) &&& (31 : Int32)) = (if (stF g2) = (stF p2) then (((stF g2) + (1 : Int32)) &&& (31 : Int32)) else (stF g2)) then (((((stF g3) + (1 : Int32)) &&& (31 : Int32)) + (1 : Int32)) &&& (31 : Int32)) else (((stF g3) + (1 : Int32)) &&& (31 : Int32)))) else (if (stF g3) = (if (stF g2) = (stF p2) then (((stF g2) + (1 : Int32)) &&& (31 : Int32)) else (stF g2)) then (if (((stF g3) + (1 : Int32)) &&& (31 : Int32)) = (stF p2) then (((((stF g3) + (1 : Int32)) &&& (31 : Int32)) + (1 : Int32)) &&& (31 : Int32)) else (if (((stF g3) + (1 : Int32)) &&& (31 : Int32)) = (if (stF g2) = (stF p2) then (((stF g2) + (1 : Int32)) &&& (31 : Int32)) else (stF g2)) then (((((stF g3) + (1 : Int32)) &&& (31 : Int32)) + (1 : Int32)) &&& (31 : Int32)) else (((stF g3) + (1 : Int32)) &&& (31 : Int32)))) else (stF g3))) = (((((stF g3) + (1 : Int32)) &&& (31 : Int32)) + (1 : Int32)) &&& (31 : Int32)))] at J333
                  exact J333 _ _ X332 e332 N332
                · refine G1 (XS.icmpYes X332.here hx rfl (pc0 := 304) (pc' := 316) rfl (hb hby at_304) rfl (feq hb344).2 (by decide) (by decide)) ?_
                  show Goes p e below QQ (T332.setTop (mkF m 316 #[iv p1, iv p2, iv p3, iv p4, iv p5, iv p6, iv 1, iv 3, iv g2, iv g3, iv ((9 : Int32) + (p6 &&& (7 : Int32))), rv b290, iv (stF p2), iv (if (stF g2) = (stF p2) then (((stF g2) + (1 : Int32)) &&& (31 : Int32)) else (stF g2)), iv (((stF g3) + (1 : Int32)) &&& (31 : Int32)), .unset] []))
                  rw [(((if_pos hb342).trans ((if_neg hb343).trans ((if_neg hb344).trans rfl))) : (if (stF g3) = (stF p2) then (if (((stF g3) + (1 : Int32)) &&& (31 : Int32)) = (stF p2) then (((((stF g3) + (1 : Int32)) &&& (31 : Int32)) + (1 : Int32)) &&& (31 : Int32)) else (if (((stF g3) + (1 : Int32)) &&& (31 : Int32)) = (if (stF g2) = (stF p2) then (((stF g2) + (1 : Int32)) &&& (31 : Int32)) else (stF g2)) then (((((stF g3) + (1 : Int32)) &&& (31 : Int32)) + (1 : Int32)) &&& (31 : Int32)) else (((stF g3) + (1 : Int32)) &&& (31 : Int32)))) else (if (stF g3) = (if (stF g2) = (stF p2) then (((stF g2) + (1 : Int32)) &&& (31 : Int32)) else (stF g2)) then (if (((stF g3) + (1 : Int32)) &&& (31 : Int32)) = (stF p2) then (((((stF g3) + (1 : Int32)) &&& (31 : Int32)) + (1 : Int32)) &&& (31 : Int32)) else (if (((stF g3) + (1 : Int32)) &&& (31 : Int32)) = (if (stF g2) = (stF p2) then (((stF g2) + (1 : Int32)) &&& (31 : Int32)) else (stF g2)) then (((((stF g3) + (1 : Int32)) &&& (31 : Int32)) + (1 : Int32)) &&& (31 : Int32)) else (((stF g3) + (1 : Int32)) &&& (31 : Int32)))) else (stF g3))) = (((stF g3) + (1 : Int32)) &&& (31 : Int32)))] at J333
                  exact J333 _ _ X332 e332 N332
            · refine G1 (XS.icmpNo X332.here hx rfl (hb hby at_274) rfl (feq hb342).1) ?_
              show Gs p e below QQ T332 m 277 #[iv p1, iv p2, iv p3, iv p4, iv p5, iv p6, iv 1, iv 3, iv g2, iv g3, iv ((9 : Int32) + (p6 &&& (7 : Int32))), rv b290, iv (stF p2), iv (if (stF g2) = (stF p2) then (((stF g2) + (1 : Int32)) &&& (31 : Int32)) else (stF g2)), iv (stF g3), .unset] []
              refine G1 (XS.iload X332.here hx rfl (hb hby at_277) rfl) ?_
              refine G1 (XS.iload X332.here hx rfl (hb hby at_279) rfl) ?_
              show Goes p e below QQ (T332.setTop (mkF m 281 #[iv p1, iv p2, iv p3, iv p4, iv p5, iv p6, iv 1, iv 3, iv g2, iv g3, iv ((9 : Int32) + (p6 &&& (7 : Int32))), rv b290, iv (stF p2), iv (if (stF g2) = (stF p2) then (((stF g2) + (1 : Int32)) &&& (31 : Int32)) else (stF g2)), iv (stF g3), .unset] [(.int (if (stF g2) = (stF p2) then (((stF g2) + (1 : Int32)) &&& (31 : Int32)) else (stF g2))), (.int (stF g3))]))
              by_cases hb345 : (stF g3) = (if (stF g2) = (stF p2) then (((stF g2) + (1 : Int32)) &&& (31 : Int32)) else (stF g2))
              · refine G1 (XS.icmpNo X332.here hx rfl (hb hby at_281) rfl (teq hb345).2) ?_
                show Gs p e below QQ T332 m 284 #[iv p1, iv p2, iv p3, iv p4, iv p5, iv p6, iv 1, iv 3, iv g2, iv g3, iv ((9 : Int32) + (p6 &&& (7 : Int32))), rv b290, iv (stF p2), iv (if (stF g2) = (stF p2) then (((stF g2) + (1 : Int32)) &&& (31 : Int32)) else (stF g2)), iv (stF g3), .unset] []
                refine G1 (XS.iload X332.here hx rfl (hb hby at_284) rfl) ?_
                refine G1 (XS.iconst X332.here hx rfl (hb hby at_286)) ?_
                show Gs p e below QQ T332 m 287 #[iv p1, iv p2, iv p3, iv p4, iv p5, iv p6, iv 1, iv 3, iv g2, iv g3, iv ((9 : Int32) + (p6 &&& (7 : Int32))), rv b290, iv (stF p2), iv (if (stF g2) = (stF p2) then (((stF g2) + (1 : Int32)) &&& (31 : Int32)) else (stF g2)), iv (stF g3), .unset] [(.int 1), (.int (stF g3))]
                refine G1 (XS.iadd X332.here hx rfl (hb hby at_287) rfl) ?_
                show Gs p e below QQ T332 m 288 #[iv p1, iv p2, iv p3, iv p4, iv p5, iv p6, iv 1, iv 3, iv g2, iv g3, iv ((9 : Int32) + (p6 &&& (7 : Int32))), rv b290, iv (stF p2), iv (if (stF g2) = (stF p2) then (((stF g2) + (1 : Int32)) &&& (31 : Int32)) else (stF g2)), iv (stF g3), .unset] [(.int ((stF g3) + (1 : Int32)))]
                refine G1 (XS.bipush X332.here hx rfl (hb hby at_288)) ?_
                show Gs p e below QQ T332 m 290 #[iv p1, iv p2, iv p3, iv p4, iv p5, iv p6, iv 1, iv 3, iv g2, iv g3, iv ((9 : Int32) + (p6 &&& (7 : Int32))), rv b290, iv (stF p2), iv (if (stF g2) = (stF p2) then (((stF g2) + (1 : Int32)) &&& (31 : Int32)) else (stF g2)), iv (stF g3), .unset] [(.int 31), (.int ((stF g3) + (1 : Int32)))]
                refine G1 (XS.iand X332.here hx rfl (hb hby at_290) rfl) ?_
                show Gs p e below QQ T332 m 291 #[iv p1, iv p2, iv p3, iv p4, iv p5, iv p6, iv 1, iv 3, iv g2, iv g3, iv ((9 : Int32) + (p6 &&& (7 : Int32))), rv b290, iv (stF p2), iv (if (stF g2) = (stF p2) then (((stF g2) + (1 : Int32)) &&& (31 : Int32)) else (stF g2)), iv (stF g3), .unset] [(.int (((stF g3) + (1 : Int32)) &&& (31 : Int32)))]
                refine G1 (XS.istore X332.here hx rfl (hb hby at_291) rfl (l' := #[iv p1, iv p2, iv p3, iv p4, iv p5, iv p6, iv 1, iv 3, iv g2, iv g3, iv ((9 : Int32) + (p6 &&& (7 : Int32))), rv b290, iv (stF p2), iv (if (stF g2) = (stF p2) then (((stF g2) + (1 : Int32)) &&& (31 : Int32)) else (stF g2)), iv (((stF g3) + (1 : Int32)) &&& (31 : Int32)), .unset]) rfl) ?_
                refine G1 (XS.iload X332.here hx rfl (hb hby at_293) rfl) ?_
                refine G1 (XS.iload X332.here hx rfl (hb hby at_295) rfl) ?_
                show Goes p e below QQ (T332.setTop (mkF m 297 #[iv p1, iv p2, iv p3, iv p4, iv p5, iv p6, iv 1, iv 3, iv g2, iv g3, iv ((9 : Int32) + (p6 &&& (7 : Int32))), rv b290, iv (stF p2), iv (if (stF g2) = (stF p2) then (((stF g2) + (1 : Int32)) &&& (31 : Int32)) else (stF g2)), iv (((stF g3) + (1 : Int32)) &&& (31 : Int32)), .unset] [(.int (stF p2)), (.int (((stF g3) + (1 : Int32)) &&& (31 : Int32)))]))
                by_cases hb346 : (((stF g3) + (1 : Int32)) &&& (31 : Int32)) = (stF p2)
                · refine G1 (XS.icmpYes X332.here hx rfl (pc0 := 297) (pc' := 307) rfl (hb hby at_297) rfl (teq hb346).1 (by decide) (by decide)) ?_
                  show Gs p e below QQ T332 m 307 #[iv p1, iv p2, iv p3, iv p4, iv p5, iv p6, iv 1, iv 3, iv g2, iv g3, iv ((9 : Int32) + (p6 &&& (7 : Int32))), rv b290, iv (stF p2), iv (if (stF g2) = (stF p2) then (((stF g2) + (1 : Int32)) &&& (31 : Int32)) else (stF g2)), iv (((stF g3) + (1 : Int32)) &&& (31 : Int32)), .unset] []
                  refine G1 (XS.iload X332.here hx rfl (hb hby at_307) rfl) ?_
                  refine G1 (XS.iconst X332.here hx rfl (hb hby at_309)) ?_
                  show Gs p e below QQ T332 m 310 #[iv p1, iv p2, iv p3, iv p4, iv p5, iv p6, iv 1, iv 3, iv g2, iv g3, iv ((9 : Int32) + (p6 &&& (7 : Int32))), rv b290, iv (stF p2), iv (if (stF g2) = (stF p2) then (((stF g2) + (1 : Int32)) &&& (31 : Int32)) else (stF g2)), iv (((stF g3) + (1 : Int32)) &&& (31 : Int32)), .unset] [(.int 1), (.int (((stF g3) + (1 : Int32)) &&& (31 : Int32)))]
                  refine G1 (XS.iadd X332.here hx rfl (hb hby at_310) rfl) ?_
                  show Gs p e below QQ T332 m 311 #[iv p1, iv p2, iv p3, iv p4, iv p5, iv p6, iv 1, iv 3, iv g2, iv g3, iv ((9 : Int32) + (p6 &&& (7 : Int32))), rv b290, iv (stF p2), iv (if (stF g2) = (stF p2) then (((stF g2) + (1 : Int32)) &&& (31 : Int32)) else (stF g2)), iv (((stF g3) + (1 : Int32)) &&& (31 : Int32)), .unset] [(.int ((((stF g3) + (1 : Int32)) &&& (31 : Int32)) + (1 : Int32)))]
                  refine G1 (XS.bipush X332.here hx rfl (hb hby at_311)) ?_
                  show Gs p e below QQ T332 m 313 #[iv p1, iv p2, iv p3, iv p4, iv p5, iv p6, iv 1, iv 3, iv g2, iv g3, iv ((9 : Int32) + (p6 &&& (7 : Int32))), rv b290, iv (stF p2), iv (if (stF g2) = (stF p2) then (((stF g2) + (1 : Int32)) &&& (31 : Int32)) else (stF g2)), iv (((stF g3) + (1 : Int32)) &&& (31 : Int32)), .unset] [(.int 31), (.int ((((stF g3) + (1 : Int32)) &&& (31 : Int32)) + (1 : Int32)))]
                  refine G1 (XS.iand X332.here hx rfl (hb hby at_313) rfl) ?_
                  show Gs p e below QQ T332 m 314 #[iv p1, iv p2, iv p3, iv p4, iv p5, iv p6, iv 1, iv 3, iv g2, iv g3, iv ((9 : Int32) + (p6 &&& (7 : Int32))), rv b290, iv (stF p2), iv (if (stF g2) = (stF p2) then (((stF g2) + (1 : Int32)) &&& (31 : Int32)) else (stF g2)), iv (((stF g3) + (1 : Int32)) &&& (31 : Int32)), .unset] [(.int (((((stF g3) + (1 : Int32)) &&& (31 : Int32)) + (1 : Int32)) &&& (31 : Int32)))]
                  refine G1 (XS.istore X332.here hx rfl (hb hby at_314) rfl (l' := #[iv p1, iv p2, iv p3, iv p4, iv p5, iv p6, iv 1, iv 3, iv g2, iv g3, iv ((9 : Int32) + (p6 &&& (7 : Int32))), rv b290, iv (stF p2), iv (if (stF g2) = (stF p2) then (((stF g2) + (1 : Int32)) &&& (31 : Int32)) else (stF g2)), iv (((((stF g3) + (1 : Int32)) &&& (31 : Int32)) + (1 : Int32)) &&& (31 : Int32)), .unset]) rfl) ?_
                  show Goes p e below QQ (T332.setTop (mkF m 316 #[iv p1, iv p2, iv p3, iv p4, iv p5, iv p6, iv 1, iv 3, iv g2, iv g3, iv ((9 : Int32) + (p6 &&& (7 : Int32))), rv b290, iv (stF p2), iv (if (stF g2) = (stF p2) then (((stF g2) + (1 : Int32)) &&& (31 : Int32)) else (stF g2)), iv (((((stF g3) + (1 : Int32)) &&& (31 : Int32)) + (1 : Int32)) &&& (31 : Int32)), .unset] []))
                  rw [(((if_neg hb342).trans ((if_pos hb345).trans ((if_pos hb346).trans rfl))) : (if (stF g3) = (stF p2) then (if (((stF g3) + (1 : Int32)) &&& (31 : Int32)) = (stF p2) then (((((stF g3) + (1 : Int32)) &&& (31 : Int32)) + (1 : Int32)) &&& (31 : Int32)) else (if (((stF g3) + (1 : Int32)) &&& (31 : Int32)) = (if (stF g2) = (stF p2) then (((stF g2) + (1 : Int32)) &&& (31 : Int32)) else (stF g2)) then (((((stF g3) + (1 : Int32)) &&& (31 : Int32)) + (1 : Int32)) &&& (31 : Int32)) else (((stF g3) + (1 : Int32)) &&& (31 : Int32)))) else (if (stF g3) = (if (stF g2) = (stF p2) then (((stF g2) + (1 : Int32)) &&& (31 : Int32)) else (stF g2)) then (if (((stF g3) + (1 : Int32)) &&& (31 : Int32)) = (stF p2) then (((((stF g3) + (1 : Int32)) &&& (31 : Int32)) + (1 : Int32)) &&& (31 : Int32)) else (if (((stF g3) + (1 : Int32)) &&& (31 : Int32)) = (if (stF g2) = (stF p2) then (((stF g2) + (1 : Int32)) &&& (31 : Int32)) else (stF g2)) then (((((stF g3) + (1 : Int32)) &&& (31 : Int32)) + (1 : Int32)) &&& (31 : Int32)) else (((stF g3) + (1 : Int32)) &&& (31 : Int32)))) else (stF g3))) = (((((stF g3) + (1 : Int32)) &&& (31 : Int32)) + (1 : Int32)) &&& (31 : Int32)))] at J333
                  exact J333 _ _ X332 e332 N332
                · refine G1 (XS.icmpNo X332.here hx rfl (hb hby at_297) rfl (feq hb346).1) ?_
                  show Gs p e below QQ T332 m 300 #[iv p1, iv p2, iv p3, iv p4, iv p5, iv p6, iv 1, iv 3, iv g2, iv g3, iv ((9 : Int32) + (p6 &&& (7 : Int32))), rv b290, iv (stF p2), iv (if (stF g2) = (stF p2) then (((stF g2) + (1 : Int32)) &&& (31 : Int32)) else (stF g2)), iv (((stF g3) + (1 : Int32)) &&& (31 : Int32)), .unset] []
                  refine G1 (XS.iload X332.here hx rfl (hb hby at_300) rfl) ?_
                  refine G1 (XS.iload X332.here hx rfl (hb hby at_302) rfl) ?_
                  show Goes p e below QQ (T332.setTop (mkF m 304 #[iv p1, iv p2, iv p3, iv p4, iv p5, iv p6, iv 1, iv 3, iv g2, iv g3, iv ((9 : Int32) + (p6 &&& (7 : Int32))), rv b290, iv (stF p2), iv (if (stF g2) = (stF p2) then (((stF g2) + (1 : Int32)) &&& (31 : Int32)) else (stF g2)), iv (((stF g3) + (1 : Int32)) &&& (31 : Int32)), .unset] [(.int (if (stF g2) = (stF p2) then (((stF g2) + (1 : Int32)) &&& (31 : Int32)) else (stF g2))), (.int (((stF g3) + (1 : Int32)) &&& (31 : Int32)))]))
                  by_cases hb347 : (((stF g3) + (1 : Int32)) &&& (31 : Int32)) = (if (stF g2) = (stF p2) then (((stF g2) + (1 : Int32)) &&& (31 : Int32)) else (stF g2))
                  · refine G1 (XS.icmpNo X332.here hx rfl (hb hby at_304) rfl (teq hb347).2) ?_
                    show Gs p e below QQ T332 m 307 #[iv p1, iv p2, iv p3, iv p4, iv p5, iv p6, iv 1, iv 3, iv g2, iv g3, iv ((9 : Int32) + (p6 &&& (7 : Int32))), rv b290, iv (stF p2), iv (if (stF g2) = (stF p2) then (((stF g2) + (1 : Int32)) &&& (31 : Int32)) else (stF g2)), iv (((stF g3) + (1 : Int32)) &&& (31 : Int32)), .unset] []
                    refine G1 (XS.iload X332.here hx rfl (hb hby at_307) rfl) ?_
                    refine G1 (XS.iconst X332.here hx rfl (hb hby at_309)) ?_
                    show Gs p e below QQ T332 m 310 #[iv p1, iv p2, iv p3, iv p4, iv p5, iv p6, iv 1, iv 3, iv g2, iv g3, iv ((9 : Int32) + (p6 &&& (7 : Int32))), rv b290, iv (stF p2), iv (if (stF g2) = (stF p2) then (((stF g2) + (1 : Int32)) &&& (31 : Int32)) else (stF g2)), iv (((stF g3) + (1 : Int32)) &&& (31 : Int32)), .unset] [(.int 1), (.int (((stF g3) + (1 : Int32)) &&& (31 : Int32)))]
                    refine G1 (XS.iadd X332.here hx rfl (hb hby at_310) rfl) ?_
                    show Gs p e below QQ T332 m 311 #[iv p1, iv p2, iv p3, iv p4, iv p5, iv p6, iv 1, iv 3, iv g2, iv g3, iv ((9 : Int32) + (p6 &&& (7 : Int32))), rv b290, iv (stF p2), iv (if (stF g2) = (stF p2) then (((stF g2) + (1 : Int32)) &&& (31 : Int32)) else (stF g2)), iv (((stF g3) + (1 : Int32)) &&& (31 : Int32)), .unset] [(.int ((((stF g3) + (1 : Int32)) &&& (31 : Int32)) + (1 : Int32)))]
                    refine G1 (XS.bipush X332.here hx rfl (hb hby at_311)) ?_
                    show Gs p e below QQ T332 m 313 #[iv p1, iv p2, iv p3, iv p4, iv p5, iv p6, iv 1, iv 3, iv g2, iv g3, iv ((9 : Int32) + (p6 &&& (7 : Int32))), rv b290, iv (stF p2), iv (if (stF g2) = (stF p2) then (((stF g2) + (1 : Int32)) &&& (31 : Int32)) else (stF g2)), iv (((stF g3) + (1 : Int32)) &&& (31 : Int32)), .unset] [(.int 31), (.int ((((stF g3) + (1 : Int32)) &&& (31 : Int32)) + (1 : Int32)))]
                    refine G1 (XS.iand X332.here hx rfl (hb hby at_313) rfl) ?_
                    show Gs p e below QQ T332 m 314 #[iv p1, iv p2, iv p3, iv p4, iv p5, iv p6, iv 1, iv 3, iv g2, iv g3, iv ((9 : Int32) + (p6 &&& (7 : Int32))), rv b290, iv (stF p2), iv (if (stF g2) = (stF p2) then (((stF g2) + (1 : Int32)) &&& (31 : Int32)) else (stF g2)), iv (((stF g3) + (1 : Int32)) &&& (31 : Int32)), .unset] [(.int (((((stF g3) + (1 : Int32)) &&& (31 : Int32)) + (1 : Int32)) &&& (31 : Int32)))]
                    refine G1 (XS.istore X332.here hx rfl (hb hby at_314) rfl (l' := #[iv p1, iv p2, iv p3, iv p4, iv p5, iv p6, iv 1, iv 3, iv g2, iv g3, iv ((9 : Int32) + (p6 &&& (7 : Int32))), rv b290, iv (stF p2), iv (if (stF g2) = (stF p2) then (((stF g2) + (1 : Int32)) &&& (31 : Int32)) else (stF g2)), iv (((((stF g3) + (1 : Int32)) &&& (31 : Int32)) + (1 : Int32)) &&& (31 : Int32)), .unset]) rfl) ?_
                    show Goes p e below QQ (T332.setTop (mkF m 316 #[iv p1, iv p2, iv p3, iv p4, iv p5, iv p6, iv 1, iv 3, iv g2, iv g3, iv ((9 : Int32) + (p6 &&& (7 : Int32))), rv b290, iv (stF p2), iv (if (stF g2) = (stF p2) then (((stF g2) + (1 : Int32)) &&& (31 : Int32)) else (stF g2)), iv (((((stF g3) + (1 : Int32)) &&& (31 : Int32)) + (1 : Int32)) &&& (31 : Int32)), .unset] []))
                    rw [(((if_neg hb342).trans ((if_pos hb345).trans ((if_neg hb346).trans ((if_pos hb347).trans rfl)))) : (if (stF g3) = (stF p2) then (if (((stF g3) + (1 : Int32)) &&& (31 : Int32)) = (stF p2) then (((((stF g3) + (1 : Int32)) &&& (31 : Int32)) + (1 : Int32)) &&& (31 : Int32)) else (if (((stF g3) + (1 : Int32)) &&& (31 : Int32)) = (if (stF g2) = (stF p2) then (((stF g2) + (1 : Int32)) &&& (31 : Int32)) else (stF g2)) then (((((stF g3) + (1 : Int32)) &&& (31 : Int32)) + (1 : Int32)) &&& (31 : Int32)) else (((stF g3) + (1 : Int32)) &&& (31 : Int32)))) else (if (stF g3) = (if (stF g2) = (stF p2) then (((stF g2) + (1 : Int32)) &&& (31 : Int32)) else (stF g2)) then (if (((stF g3) + (1 : Int32)) &&& (31 : Int32)) = (stF p2) then (((((stF g3) + (1 : Int32)) &&& (31 : Int32)) + (1 : Int32)) &&& (31 : Int32)) else (if (((stF g3) + (1 : Int32)) &&& (31 : Int32)) = (if (stF g2) = (stF p2) then (((stF g2) + (1 : Int32)) &&& (31 : Int32)) else (stF g2)) then (((((stF g3) + (1 : Int32)) &&& (31 : Int32)) + (1 : Int32)) &&& (31 : Int32)) else (((stF g3) + (1 : Int32)) &&& (31 : Int32)))) else (stF g3))) = (((((stF g3) + (1 : Int32)) &&& (31 : Int32)) + (1 : Int32)) &&& (31 : Int32)))] at J333
                    exact J333 _ _ X332 e332 N332
                  · refine G1 (XS.icmpYes X332.here hx rfl (pc0 := 304) (pc' := 316) rfl (hb hby at_304) rfl (feq hb347).2 (by decide) (by decide)) ?_
                    show Goes p e below QQ (T332.setTop (mkF m 316 #[iv p1, iv p2, iv p3, iv p4, iv p5, iv p6, iv 1, iv 3, iv g2, iv g3, iv ((9 : Int32) + (p6 &&& (7 : Int32))), rv b290, iv (stF p2), iv (if (stF g2) = (stF p2) then (((stF g2) + (1 : Int32)) &&& (31 : Int32)) else (stF g2)), iv (((stF g3) + (1 : Int32)) &&& (31 : Int32)), .unset] []))
                    rw [(((if_neg hb342).trans ((if_pos hb345).trans ((if_neg hb346).trans ((if_neg hb347).trans rfl)))) : (if (stF g3) = (stF p2) then (if (((stF g3) + (1 : Int32)) &&& (31 : Int32)) = (stF p2) then (((((stF g3) + (1 : Int32)) &&& (31 : Int32)) + (1 : Int32)) &&& (31 : Int32)) else (if (((stF g3) + (1 : Int32)) &&& (31 : Int32)) = (if (stF g2) = (stF p2) then (((stF g2) + (1 : Int32)) &&& (31 : Int32)) else (stF g2)) then (((((stF g3) + (1 : Int32)) &&& (31 : Int32)) + (1 : Int32)) &&& (31 : Int32)) else (((stF g3) + (1 : Int32)) &&& (31 : Int32)))) else (if (stF g3) = (if (stF g2) = (stF p2) then (((stF g2) + (1 : Int32)) &&& (31 : Int32)) else (stF g2)) then (if (((stF g3) + (1 : Int32)) &&& (31 : Int32)) = (stF p2) then (((((stF g3) + (1 : Int32)) &&& (31 : Int32)) + (1 : Int32)) &&& (31 : Int32)) else (if (((stF g3) + (1 : Int32)) &&& (31 : Int32)) = (if (stF g2) = (stF p2) then (((stF g2) + (1 : Int32)) &&& (31 : Int32)) else (stF g2)) then (((((stF g3) + (1 : Int32)) &&& (31 : Int32)) + (1 : Int32)) &&& (31 : Int32)) else (((stF g3) + (1 : Int32)) &&& (31 : Int32)))) else (stF g3))) = (((stF g3) + (1 : Int32)) &&& (31 : Int32)))] at J333
                    exact J333 _ _ X332 e332 N332
              · refine G1 (XS.icmpYes X332.here hx rfl (pc0 := 281) (pc' := 316) rfl (hb hby at_281) rfl (feq hb345).2 (by decide) (by decide)) ?_
                show Goes p e below QQ (T332.setTop (mkF m 316 #[iv p1, iv p2, iv p3, iv p4, iv p5, iv p6, iv 1, iv 3, iv g2, iv g3, iv ((9 : Int32) + (p6 &&& (7 : Int32))), rv b290, iv (stF p2), iv (if (stF g2) = (stF p2) then (((stF g2) + (1 : Int32)) &&& (31 : Int32)) else (stF g2)), iv (stF g3), .unset] []))
                rw [(((if_neg hb342).trans ((if_neg hb345).trans rfl)) : (if (stF g3) = (stF p2) then (if (((stF g3) + (1 : Int32)) &&& (31 : Int32)) = (stF p2) then (((((stF g3) + (1 : Int32)) &&& (31 : Int32)) + (1 : Int32)) &&& (31 : Int32)) else (if (((stF g3) + (1 : Int32)) &&& (31 : Int32)) = (if (stF g2) = (stF p2) then (((stF g2) + (1 : Int32)) &&& (31 : Int32)) else (stF g2)) then (((((stF g3) + (1 : Int32)) &&& (31 : Int32)) + (1 : Int32)) &&& (31 : Int32)) else (((stF g3) + (1 : Int32)) &&& (31 : Int32)))) else (if (stF g3) = (if (stF g2) = (stF p2) then (((stF g2) + (1 : Int32)) &&& (31 : Int32)) else (stF g2)) then (if (((stF g3) + (1 : Int32)) &&& (31 : Int32)) = (stF p2) then (((((stF g3) + (1 : Int32)) &&& (31 : Int32)) + (1 : Int32)) &&& (31 : Int32)) else (if (((stF g3) + (1 : Int32)) &&& (31 : Int32)) = (if (stF g2) = (stF p2) then (((stF g2) + (1 : Int32)) &&& (31 : Int32)) else (stF g2)) then (((((stF g3) + (1 : Int32)) &&& (31 : Int32)) + (1 : Int32)) &&& (31 : Int32)) else (((stF g3) + (1 : Int32)) &&& (31 : Int32)))) else (stF g3))) = (stF g3))] at J333
                exact J333 _ _ X332 e332 N332
          show Goes p e below QQ (T330.setTop (mkF m 249 #[iv p1, iv p2, iv p3, iv p4, iv p5, iv p6, iv 1, iv 3, iv g2, iv g3, iv ((9 : Int32) + (p6 &&& (7 : Int32))), rv b290, iv (stF p2), iv (stF g2), .unset, .unset] [(.int (stF p2)), (.int (stF g2))]))
          by_cases hb348 : (stF g2) = (stF p2)
          · refine G1 (XS.icmpNo X330.here hx rfl (hb hby at_249) rfl (teq hb348).2) ?_
            show Gs p e below QQ T330 m 252 #[iv p1, iv p2, iv p3, iv p4, iv p5, iv p6, iv 1, iv 3, iv g2, iv g3, iv ((9 : Int32) + (p6 &&& (7 : Int32))), rv b290, iv (stF p2), iv (stF g2), .unset, .unset] []
            refine G1 (XS.iload X330.here hx rfl (hb hby at_252) rfl) ?_
            refine G1 (XS.iconst X330.here hx rfl (hb hby at_254)) ?_
            show Gs p e below QQ T330 m 255 #[iv p1, iv p2, iv p3, iv p4, iv p5, iv p6, iv 1, iv 3, iv g2, iv g3, iv ((9 : Int32) + (p6 &&& (7 : Int32))), rv b290, iv (stF p2), iv (stF g2), .unset, .unset] [(.int 1), (.int (stF g2))]
            refine G1 (XS.iadd X330.here hx rfl (hb hby at_255) rfl) ?_
            show Gs p e below QQ T330 m 256 #[iv p1, iv p2, iv p3, iv p4, iv p5, iv p6, iv 1, iv 3, iv g2, iv g3, iv ((9 : Int32) + (p6 &&& (7 : Int32))), rv b290, iv (stF p2), iv (stF g2), .unset, .unset] [(.int ((stF g2) + (1 : Int32)))]
            refine G1 (XS.bipush X330.here hx rfl (hb hby at_256)) ?_
            show Gs p e below QQ T330 m 258 #[iv p1, iv p2, iv p3, iv p4, iv p5, iv p6, iv 1, iv 3, iv g2, iv g3, iv ((9 : Int32) + (p6 &&& (7 : Int32))), rv b290, iv (stF p2), iv (stF g2), .unset, .unset] [(.int 31), (.int ((stF g2) + (1 : Int32)))]
            refine G1 (XS.iand X330.here hx rfl (hb hby at_258) rfl) ?_
            show Gs p e below QQ T330 m 259 #[iv p1, iv p2, iv p3, iv p4, iv p5, iv p6, iv 1, iv 3, iv g2, iv g3, iv ((9 : Int32) + (p6 &&& (7 : Int32))), rv b290, iv (stF p2), iv (stF g2), .unset, .unset] [(.int (((stF g2) + (1 : Int32)) &&& (31 : Int32)))]
            refine G1 (XS.istore X330.here hx rfl (hb hby at_259) rfl (l' := #[iv p1, iv p2, iv p3, iv p4, iv p5, iv p6, iv 1, iv 3, iv g2, iv g3, iv ((9 : Int32) + (p6 &&& (7 : Int32))), rv b290, iv (stF p2), iv (((stF g2) + (1 : Int32)) &&& (31 : Int32)), .unset, .unset]) rfl) ?_
            show Goes p e below QQ (T330.setTop (mkF m 261 #[iv p1, iv p2, iv p3, iv p4, iv p5, iv p6, iv 1, iv 3, iv g2, iv g3, iv ((9 : Int32) + (p6 &&& (7 : Int32))), rv b290, iv (stF p2), iv (((stF g2) + (1 : Int32)) &&& (31 : Int32)), .unset, .unset] []))
            rw [(((if_pos hb348).trans rfl) : (if (stF g2) = (stF p2) then (((stF g2) + (1 : Int32)) &&& (31 : Int32)) else (stF g2)) = (((stF g2) + (1 : Int32)) &&& (31 : Int32)))] at J331
            exact J331 _ _ X330 e330 N330
          · refine G1 (XS.icmpYes X330.here hx rfl (pc0 := 249) (pc' := 261) rfl (hb hby at_249) rfl (feq hb348).2 (by decide) (by decide)) ?_
            show Goes p e below QQ (T330.setTop (mkF m 261 #[iv p1, iv p2, iv p3, iv p4, iv p5, iv p6, iv 1, iv 3, iv g2, iv g3, iv ((9 : Int32) + (p6 &&& (7 : Int32))), rv b290, iv (stF p2), iv (stF g2), .unset, .unset] []))
            rw [(((if_neg hb348).trans rfl) : (if (stF g2) = (stF p2) then (((stF g2) + (1 : Int32)) &&& (31 : Int32)) else (stF g2)) = (stF g2))] at J331
            exact J331 _ _ X330 e330 N330
        show Goes p e below QQ (TJ288.setTop (mkF m 38 #[iv p1, iv p2, iv p3, iv p4, iv p5, iv p6, iv 1, iv 3, iv (if (p1 &&& (8 : Int32)) = (0 : Int32) then p3 else p2), .unset, .unset, .unset, .unset, .unset, .unset, .unset] [(.int (p1 &&& (16 : Int32)))]))
        by_cases hb349 : (p1 &&& (16 : Int32)) = (0 : Int32)
        · refine G1 (XS.ifYes XJ288.here hx rfl (pc0 := 38) (pc' := 45) rfl (hb hby at_38) rfl ((if0 _ _).trans (teq hb349).1) (by decide) (by decide)) ?_
          show Gs p e below QQ TJ288 m 45 #[iv p1, iv p2, iv p3, iv p4, iv p5, iv p6, iv 1, iv 3, iv (if (p1 &&& (8 : Int32)) = (0 : Int32) then p3 else p2), .unset, .unset, .unset, .unset, .unset, .unset, .unset] []
          refine G1 (XS.iloadN XJ288.here hx rfl (hb hby at_45) rfl) ?_
          refine G1 (XS.bipush XJ288.here hx rfl (hb hby at_46)) ?_
          show Gs p e below QQ TJ288 m 48 #[iv p1, iv p2, iv p3, iv p4, iv p5, iv p6, iv 1, iv 3, iv (if (p1 &&& (8 : Int32)) = (0 : Int32) then p3 else p2), .unset, .unset, .unset, .unset, .unset, .unset, .unset] [(.int 32), (.int p1)]
          refine G1 (XS.iand XJ288.here hx rfl (hb hby at_48) rfl) ?_
          show Goes p e below QQ (TJ288.setTop (mkF m 49 #[iv p1, iv p2, iv p3, iv p4, iv p5, iv p6, iv 1, iv 3, iv (if (p1 &&& (8 : Int32)) = (0 : Int32) then p3 else p2), .unset, .unset, .unset, .unset, .unset, .unset, .unset] [(.int (p1 &&& (32 : Int32)))]))
          by_cases hb350 : (p1 &&& (32 : Int32)) = (0 : Int32)
          · refine G1 (XS.ifYes XJ288.here hx rfl (pc0 := 49) (pc' := 57) rfl (hb hby at_49) rfl ((if0 _ _).trans (teq hb350).1) (by decide) (by decide)) ?_
            show Gs p e below QQ TJ288 m 57 #[iv p1, iv p2, iv p3, iv p4, iv p5, iv p6, iv 1, iv 3, iv (if (p1 &&& (8 : Int32)) = (0 : Int32) then p3 else p2), .unset, .unset, .unset, .unset, .unset, .unset, .unset] []
            refine G1 (XS.iloadN XJ288.here hx rfl (hb hby at_57) rfl) ?_
            show Goes p e below QQ (TJ288.setTop (mkF m 58 #[iv p1, iv p2, iv p3, iv p4, iv p5, iv p6, iv 1, iv 3, iv (if (p1 &&& (8 : Int32)) = (0 : Int32) then p3 else p2), .unset, .unset, .unset, .unset, .unset, .unset, .unset] [(.int p4)]))
            rw [(((if_pos hb349).trans ((if_pos hb350).trans rfl)) : (if (p1 &&& (16 : Int32)) = (0 : Int32) then (if (p1 &&& (32 : Int32)) = (0 : Int32) then p4 else (if (p1 &&& (8 : Int32)) = (0 : Int32) then p3 else p2)) else p2) = p4)] at J289
            exact J289 _ _ XJ288 eJ288 NJ288
          · refine G1 (XS.ifNo XJ288.here hx rfl (hb hby at_49) rfl ((if0 _ _).trans (feq hb350).1)) ?_
            show Gs p e below QQ TJ288 m 52 #[iv p1, iv p2, iv p3, iv p4, iv p5, iv p6, iv 1, iv 3, iv (if (p1 &&& (8 : Int32)) = (0 : Int32) then p3 else p2), .unset, .unset, .unset, .unset, .unset, .unset, .unset] []
            refine G1 (XS.iload XJ288.here hx rfl (hb hby at_52) rfl) ?_
            refine G1 (XS.goto XJ288.here hx rfl (pc0 := 54) (pc' := 58) rfl (hb hby at_54) (by decide) (by decide)) ?_
            show Goes p e below QQ (TJ288.setTop (mkF m 58 #[iv p1, iv p2, iv p3, iv p4, iv p5, iv p6, iv 1, iv 3, iv (if (p1 &&& (8 : Int32)) = (0 : Int32) then p3 else p2), .unset, .unset, .unset, .unset, .unset, .unset, .unset] [(.int (if (p1 &&& (8 : Int32)) = (0 : Int32) then p3 else p2))]))
            rw [(((if_pos hb349).trans ((if_neg hb350).trans rfl)) : (if (p1 &&& (16 : Int32)) = (0 : Int32) then (if (p1 &&& (32 : Int32)) = (0 : Int32) then p4 else (if (p1 &&& (8 : Int32)) = (0 : Int32) then p3 else p2)) else p2) = (if (p1 &&& (8 : Int32)) = (0 : Int32) then p3 else p2))] at J289
            exact J289 _ _ XJ288 eJ288 NJ288
        · refine G1 (XS.ifNo XJ288.here hx rfl (hb hby at_38) rfl ((if0 _ _).trans (feq hb349).1)) ?_
          show Gs p e below QQ TJ288 m 41 #[iv p1, iv p2, iv p3, iv p4, iv p5, iv p6, iv 1, iv 3, iv (if (p1 &&& (8 : Int32)) = (0 : Int32) then p3 else p2), .unset, .unset, .unset, .unset, .unset, .unset, .unset] []
          refine G1 (XS.iloadN XJ288.here hx rfl (hb hby at_41) rfl) ?_
          refine G1 (XS.goto XJ288.here hx rfl (pc0 := 42) (pc' := 58) rfl (hb hby at_42) (by decide) (by decide)) ?_
          show Goes p e below QQ (TJ288.setTop (mkF m 58 #[iv p1, iv p2, iv p3, iv p4, iv p5, iv p6, iv 1, iv 3, iv (if (p1 &&& (8 : Int32)) = (0 : Int32) then p3 else p2), .unset, .unset, .unset, .unset, .unset, .unset, .unset] [(.int p2)]))
          rw [(((if_neg hb349).trans rfl) : (if (p1 &&& (16 : Int32)) = (0 : Int32) then (if (p1 &&& (32 : Int32)) = (0 : Int32) then p4 else (if (p1 &&& (8 : Int32)) = (0 : Int32) then p3 else p2)) else p2) = p2)] at J289
          exact J289 _ _ XJ288 eJ288 NJ288
      show Goes p e below QQ (s₁.setTop (mkF m 24 #[iv p1, iv p2, iv p3, iv p4, iv p5, iv p6, iv 1, iv 3, .unset, .unset, .unset, .unset, .unset, .unset, .unset, .unset] [(.int (p1 &&& (8 : Int32)))]))
      by_cases hb351 : (p1 &&& (8 : Int32)) = (0 : Int32)
      · refine G1 (XS.ifYes X0.here hx rfl (pc0 := 24) (pc' := 31) rfl (hb hby at_24) rfl ((if0 _ _).trans (teq hb351).1) (by decide) (by decide)) ?_
        show Gs p e below QQ s₁ m 31 #[iv p1, iv p2, iv p3, iv p4, iv p5, iv p6, iv 1, iv 3, .unset, .unset, .unset, .unset, .unset, .unset, .unset, .unset] []
        refine G1 (XS.iloadN X0.here hx rfl (hb hby at_31) rfl) ?_
        show Goes p e below QQ (s₁.setTop (mkF m 32 #[iv p1, iv p2, iv p3, iv p4, iv p5, iv p6, iv 1, iv 3, .unset, .unset, .unset, .unset, .unset, .unset, .unset, .unset] [(.int p3)]))
        rw [(((if_pos hb351).trans rfl) : (if (p1 &&& (8 : Int32)) = (0 : Int32) then p3 else p2) = p3)] at J288
        exact J288 _ _ X0 e0 N0
      · refine G1 (XS.ifNo X0.here hx rfl (hb hby at_24) rfl ((if0 _ _).trans (feq hb351).1)) ?_
        show Gs p e below QQ s₁ m 27 #[iv p1, iv p2, iv p3, iv p4, iv p5, iv p6, iv 1, iv 3, .unset, .unset, .unset, .unset, .unset, .unset, .unset, .unset] []
        refine G1 (XS.iloadN X0.here hx rfl (hb hby at_27) rfl) ?_
        refine G1 (XS.goto X0.here hx rfl (pc0 := 28) (pc' := 32) rfl (hb hby at_28) (by decide) (by decide)) ?_
        show Goes p e below QQ (s₁.setTop (mkF m 32 #[iv p1, iv p2, iv p3, iv p4, iv p5, iv p6, iv 1, iv 3, .unset, .unset, .unset, .unset, .unset, .unset, .unset, .unset] [(.int p2)]))
        rw [(((if_neg hb351).trans rfl) : (if (p1 &&& (8 : Int32)) = (0 : Int32) then p3 else p2) = p2)] at J288
        exact J288 _ _ X0 e0 N0
set_option maxRecDepth 65536 in
set_option maxHeartbeats 40000000 in
theorem comes_1 {Post : Tables → Env → Array Value → State → Outcome → State → Prop} (hpost : ∀ tb e args s v u, (limb_1_1.after args s (.returned v) u = true ∧ limb_1_2.after args s (.returned v) u = true ∧ True) → FrameEnd s (.returned v) u (Jvm.fieldLocs frame_1_writes args s ++ Jvm.arrayLocs frame_1_arrays args s ++ Jvm.staticLocs frame_1_statics s) 16 192 → Post tb e args s (.returned v) u) :
    ArmFor flags0 classFile x code maxLocals ret World_1 tables_1 room_1 Calls_1 rest_1 Pre_1 Post := by
  intro l hfl _ _ p e ha hc hk s m args below hf hA hF happ hP
  obtain ⟨hcalls, hrest, hpre⟩ := hP
  obtain ⟨-, -, -, hnamed, -, -, -, hat⟩ := (Spec.applies_iff hf).mp happ
  obtain ⟨hg, hn⟩ := and_e (Cond.before_iff.mp (show (Jvm.Cond.and given_1 narrow_1).before args s = true from hpre))
  obtain ⟨hg0, hg1⟩ := and_e hg
  obtain ⟨ga1, hg2⟩ := and_e hg1
  obtain ⟨ga2, hg3⟩ := and_e hg2
  obtain ⟨ga3, hg4⟩ := and_e hg3
  obtain ⟨ga4, hg5⟩ := and_e hg4
  obtain ⟨ga5, hg6⟩ := and_e hg5
  obtain ⟨w0, w1, w2, w3, w4, w5, rfl⟩ : ∃ w0 w1 w2 w3 w4 w5 : Value, args = #[w0, w1, w2, w3, w4, w5] := by
    have hs : args.size = 6 := by simpa [Cond.value, given_1] using hg0
    obtain ⟨L⟩ := args
    match L, hs with
    | [w0, w1, w2, w3, w4, w5], _ => exact ⟨w0, w1, w2, w3, w4, w5, rfl⟩
  have hw := fun d (hd : d ∈ tables_1) => atoms_spec (ws := Jvm.Cond.code x code maxLocals ret :: tables_1) hat d (List.mem_cons_of_mem _ hd)
  have hfit : Fit s := fun {y c} hc i hi => by
    obtain ⟨ha, rfl⟩ := Array.getElem?_eq_some_iff.mp hc
    have q := List.all_eq_true.mp ((Array.all_eq_true_iff_forall_mem.mp hF) _ (Array.getElem_mem ha)) i (List.mem_range.mpr hi)
    simpa [Array.getElem?_eq_getElem hi] using q
  obtain ⟨i0, ei0⟩ := is_v ga1
  obtain rfl : w0 = (.int i0) := Option.some.inj ei0
  obtain ⟨i1, ei1⟩ := is_v ga2
  obtain rfl : w1 = (.int i1) := Option.some.inj ei1
  obtain ⟨i2, ei2⟩ := is_v ga3
  obtain rfl : w2 = (.int i2) := Option.some.inj ei2
  obtain ⟨i3, ei3⟩ := is_v ga4
  obtain rfl : w3 = (.int i3) := Option.some.inj ei3
  obtain ⟨i4, ei4⟩ := is_v ga5
  obtain rfl : w4 = (.int i4) := Option.some.inj ei4
  obtain ⟨i5, ei5⟩ := is_v hg6
  obtain rfl : w5 = (.int i5) := Option.some.inj ei5
  obtain ⟨n, o, h1, h2, h3, _, L, rfl, ⟨rfl, N⟩, hq⟩ := rm0 l s _ hw tables_1 i0 i1 i2 i3 i4 i5 s.heap s.heap.size (Nat.le_refl _)  p e ha hc hk s m _ below hf ((Spec.applies_iff_loose hf).mp happ).1 ⟨rfl, State.Warmed39.refl s, rfl⟩ trivial
  refine ⟨n, _, h1, h2, h3, hpost _ _ _ _ _ _ ⟨Cond.after_iff.mpr rfl, Cond.after_iff.mpr (eq_i res_at (Term.int_eval (1)) rfl), trivial⟩ ⟨hq.1, hq.2.1, (hq.2.2.sift fun y hy => Or.inr (N y hy)).mono (by decide) (by decide)⟩⟩
theorem main_1_1 : Claimed_1_1 := comes_1 fun _ _ _ _ _ _ h hF => ⟨h.1, hF⟩
theorem main_1_2 : Claimed_1_2 := comes_1 fun _ _ _ _ _ _ h hF => ⟨h.2.1, hF⟩
end Jvm.Pilot.@@N@@
namespace Jvm.Pilot.@@N@@
open Jvm Jvm.ClassFile Sem Op Lib Jvm.Free Jvm.Stand Jvm.Pilot.@@N@@.Jvm.D
/-! MADE BY PROGRAM (witnessworld.py) out of the Statement's table words and the real class files: 17 classes; the members and pool entries that the words name. The judged class is class 1, her method 3. -/
namespace start1
open Jvm.ClassFile
def u (s : String) : CpInfo := .utf8 (stringToUtf16 s)
/-- a pool by its gaps: so many unusable entries, then the entry; so many at the end -/
def gap : Nat → List CpInfo → List CpInfo
  | 0, r => r
  | n + 1, r => .unusable :: gap n r
def poolList (es : List (Nat × CpInfo)) (last : Nat) : List CpInfo := es.foldr (fun e r => gap e.1 (e.2 :: r)) (gap last [])
def pool (es : List (Nat × CpInfo)) (last : Nat) : Array CpInfo := ⟨poolList es last⟩
def fileOf (pool : Array CpInfo) (this : Nat) (attrs : Array Attribute := #[]) (ms : Array MethodInfo := #[]) (fl : Nat := 33) (sup : Nat := 0) (ifs : Array Nat := #[]) (fds : Array FieldInfo := #[]) : ClassFile where
  minorVersion := 0
  majorVersion := 65
  constantPool := pool
  accessFlags := fl
  thisClass := this
  superClass := sup
  interfaces := ifs
  fields := fds
  methods := ms
  attributes := attrs
def plain (name : String) (sup : Option ClassId) : Class where
  name := name
  kind := .ordinary
  loader := none
  accessFlags := 33
  super := sup
  interfaces := #[]
  cf := none
  fields := #[]
  methods := #[]
  instanceTypes := #[]
  staticTypes := #[]
  resolved := #[]
  callSites := []
  init := .initialized
  statics := none
  mirror := none

def pool0 : Array CpInfo := pool [(5, u "<init>"), (0, u "()V"), (1, .class_ 10), (1, u "java/lang/Object")] 113

def k0c0 : Code := { maxStack := 0, maxLocals := 1, code := object_method_1_code, exceptionTable := #[], attributes := #[] }
def k0m0 : Method := { name := "<init>", desc := "()V", sig := { parameters := [], returnType := none }, accessFlags := 1, code := some k0c0 }
/-- java/lang/Object -/
def k0 : Class := { plain "java/lang/Object" none with
  accessFlags := 33
  interfaces := #[]
  cf := some (fileOf pool0 8 #[] #[{ accessFlags := 1, nameIndex := 5, descriptorIndex := 6, attributes := #[] }] 33 0 #[] #[])
  fields := #[]
  methods := #[k0m0]
  instanceTypes := #[]
  staticTypes := #[]
  resolved := Array.replicate 124 none
  statics := none }

def pool1 : Array CpInfo := pool [(2, .class_ 4), (1, u "java/lang/Object"), (0, u "<init>"), (0, u "()V"), (0, .class_ 8), (0, u "com/example/bindery/bindery/PartIndex"), (0, .methodref 7 10), (0, .nameAndType 5 11), (0, u "(I)V"), (0, .methodref 7 13), (0, .nameAndType 14 11), (0, u "add"), (0, .integer 2147483647), (0, .methodref 7 17), (0, .nameAndType 18 19), (0, u "entryAt"), (0, u "(I)I"), (0, .methodref 21 22), (0, .class_ 23), (0, .nameAndType 24 25), (0, u "com/example/bindery/bindery/PartIndexEntryAtPinLaw"), (0, u "few"), (0, u "(II)I"), (0, .methodref 7 27), (0, .nameAndType 28 19), (0, u "start"), (0, .methodref 21 30), (0, .nameAndType 31 32), (0, u "slot"), (0, u "(IIIII)I"), (3, u "law"), (0, u "(IIIIII)Z")] 2

def k1m0 : Method := { name := "<init>", desc := "()V", sig := { parameters := [], returnType := none }, accessFlags := 2, code := none }
def k1c1 : Code := { maxStack := 2, maxLocals := 2, code := method_2_code, exceptionTable := #[], attributes := #[] }
def k1m1 : Method := { name := "few", desc := "(II)I", sig := { parameters := [.int, .int], returnType := some .int }, accessFlags := 10, code := some k1c1 }
def k1c2 : Code := { maxStack := 2, maxLocals := 5, code := method_3_code, exceptionTable := #[], attributes := #[] }
def k1m2 : Method := { name := "slot", desc := "(IIIII)I", sig := { parameters := [.int, .int, .int, .int, .int], returnType := some .int }, accessFlags := 10, code := some k1c2 }
def k1c3 : Code := { maxStack := 6, maxLocals := 16, code := code, exceptionTable := #[], attributes := #[] }
def k1m3 : Method := { name := "law", desc := "(IIIIII)Z", sig := { parameters := [.int, .int, .int, .int, .int, .int], returnType := some .boolean }, accessFlags := 9, code := some k1c3 }
/-- com/example/bindery/bindery/PartIndexEntryAtPinLaw -/
def k1 : Class := { plain "com/example/bindery/bindery/PartIndexEntryAtPinLaw" (some 0) with
  accessFlags := 49
  interfaces := #[]
  cf := some (fileOf pool1 21 #[] #[{ accessFlags := 2, nameIndex := 5, descriptorIndex := 6, attributes := #[] }, { accessFlags := 10, nameIndex := 24, descriptorIndex := 25, attributes := #[] }, { accessFlags := 10, nameIndex := 31, descriptorIndex := 32, attributes := #[] }, { accessFlags := 9, nameIndex := 36, descriptorIndex := 37, attributes := #[] }] 49 2 #[] #[])
  fields := #[]
  methods := #[k1m0, k1m1, k1m2, k1m3]
  instanceTypes := #[]
  staticTypes := #[]
  resolved := Array.replicate 40 none
  statics := none }

def pool2 : Array CpInfo := pool [(1, .methodref 2 3), (0, .class_ 4), (0, .nameAndType 5 6), (0, u "java/lang/Object"), (0, u "<init>"), (0, u "()V"), (0, .methodref 8 9), (0, .class_ 10), (0, .nameAndType 11 12), (0, u "com/example/bindery/bindery/PartIndex"), (0, u "room"), (0, u "(I)I"), (0, .fieldref 8 14), (0, .nameAndType 15 16), (0, u "hashes"), (0, u "[I"), (0, .methodref 8 18), (0, .nameAndType 19 20), (0, u "makeSlots"), (0, u "(I)V"), (0, .methodref 22 23), (0, .class_ 24), (0, .nameAndType 25 26), (0, u "java/lang/Math"), (0, u "max"), (0, u "(II)I"), (0, .integer 65536), (0, .methodref 22 29), (0, .nameAndType 30 26), (0, u "min"), (0, .fieldref 8 32), (0, .nameAndType 33 34), (0, u "size"), (0, u "I"), (0, .fieldref 8 36), (0, .nameAndType 37 16), (0, u "slots"), (0, .integer 2654435769), (0, .fieldref 8 40), (0, .nameAndType 41 34), (0, u "shift"), (0, .methodref 8 43), (0, .nameAndType 44 12), (0, u "start"), (2, u "entryAt"), (4, .methodref 8 53), (0, .nameAndType 54 12), (0, u "after"), (0, .methodref 56 57), (0, .class_ 58), (0, .nameAndType 59 60), (0, u "java/util/Arrays"), (0, u "copyOf"), (0, u "([II)[I"), (0, .methodref 8 62), (0, .nameAndType 63 20), (0, u "place"), (0, .methodref 65 66), (0, .class_ 67), (0, .nameAndType 68 12), (0, u "java/lang/Integer"), (0, u "numberOfLeadingZeros"), (0, u "FEW"), (2, u "MOST_EXPECTED"), (0, u "SPREAD"), (9, u "add")] 3

def k2c0 : Code := { maxStack := 2, maxLocals := 2, code := prog_150_method_1_code, exceptionTable := #[], attributes := #[] }
def k2m0 : Method := { name := "<init>", desc := "(I)V", sig := { parameters := [.int], returnType := none }, accessFlags := 0, code := some k2c0 }
def k2c1 : Code := { maxStack := 2, maxLocals := 1, code := prog_150_method_2_code, exceptionTable := #[], attributes := #[] }
def k2m1 : Method := { name := "room", desc := "(I)I", sig := { parameters := [.int], returnType := some .int }, accessFlags := 8, code := some k2c1 }
def k2c2 : Code := { maxStack := 2, maxLocals := 2, code := prog_150_method_5_code, exceptionTable := #[], attributes := #[] }
def k2m2 : Method := { name := "start", desc := "(I)I", sig := { parameters := [.int], returnType := some .int }, accessFlags := 0, code := some k2c2 }
def k2c3 : Code := { maxStack := 2, maxLocals := 2, code := prog_150_method_6_code, exceptionTable := #[], attributes := #[] }
def k2m3 : Method := { name := "entryAt", desc := "(I)I", sig := { parameters := [.int], returnType := some .int }, accessFlags := 0, code := some k2c3 }
def k2c4 : Code := { maxStack := 3, maxLocals := 2, code := prog_150_method_7_code, exceptionTable := #[], attributes := #[] }
def k2m4 : Method := { name := "after", desc := "(I)I", sig := { parameters := [.int], returnType := some .int }, accessFlags := 0, code := some k2c4 }
def k2c5 : Code := { maxStack := 4, maxLocals := 2, code := prog_150_method_9_code, exceptionTable := #[], attributes := #[] }
def k2m5 : Method := { name := "add", desc := "(I)V", sig := { parameters := [.int], returnType := none }, accessFlags := 0, code := some k2c5 }
def k2c6 : Code := { maxStack := 3, maxLocals := 4, code := prog_150_method_11_code, exceptionTable := #[], attributes := #[] }
def k2m6 : Method := { name := "makeSlots", desc := "(I)V", sig := { parameters := [.int], returnType := none }, accessFlags := 2, code := some k2c6 }
def k2c7 : Code := { maxStack := 4, maxLocals := 3, code := prog_150_method_12_code, exceptionTable := #[], attributes := #[] }
def k2m7 : Method := { name := "place", desc := "(I)V", sig := { parameters := [.int], returnType := none }, accessFlags := 2, code := some k2c7 }
/-- com/example/bindery/bindery/PartIndex -/
def k2 : Class := { plain "com/example/bindery/bindery/PartIndex" (some 0) with
  accessFlags := 48
  interfaces := #[]
  cf := some (fileOf pool2 8 #[] #[{ accessFlags := 0, nameIndex := 5, descriptorIndex := 20, attributes := #[] }, { accessFlags := 8, nameIndex := 11, descriptorIndex := 12, attributes := #[] }, { accessFlags := 0, nameIndex := 44, descriptorIndex := 12, attributes := #[] }, { accessFlags := 0, nameIndex := 47, descriptorIndex := 12, attributes := #[] }, { accessFlags := 0, nameIndex := 54, descriptorIndex := 12, attributes := #[] }, { accessFlags := 0, nameIndex := 83, descriptorIndex := 20, attributes := #[] }, { accessFlags := 2, nameIndex := 19, descriptorIndex := 20, attributes := #[] }, { accessFlags := 2, nameIndex := 63, descriptorIndex := 20, attributes := #[] }] 48 2 #[] #[{ accessFlags := 26, nameIndex := 69, descriptorIndex := 34, attributes := #[] }, { accessFlags := 26, nameIndex := 72, descriptorIndex := 34, attributes := #[] }, { accessFlags := 26, nameIndex := 73, descriptorIndex := 34, attributes := #[] }, { accessFlags := 2, nameIndex := 15, descriptorIndex := 16, attributes := #[] }, { accessFlags := 2, nameIndex := 37, descriptorIndex := 16, attributes := #[] }, { accessFlags := 2, nameIndex := 41, descriptorIndex := 34, attributes := #[] }, { accessFlags := 2, nameIndex := 33, descriptorIndex := 34, attributes := #[] }])
  fields := #[{ name := "FEW", type := .int, accessFlags := 26, slot := 0, constantValue := 0 }, { name := "MOST_EXPECTED", type := .int, accessFlags := 26, slot := 1, constantValue := 0 }, { name := "SPREAD", type := .int, accessFlags := 26, slot := 2, constantValue := 0 }, { name := "hashes", type := (.array .int), accessFlags := 2, slot := 0, constantValue := 0 }, { name := "slots", type := (.array .int), accessFlags := 2, slot := 1, constantValue := 0 }, { name := "shift", type := .int, accessFlags := 2, slot := 2, constantValue := 0 }, { name := "size", type := .int, accessFlags := 2, slot := 3, constantValue := 0 }]
  methods := #[k2m0, k2m1, k2m2, k2m3, k2m4, k2m5, k2m6, k2m7]
  instanceTypes := #[(.array .int), (.array .int), .int, .int]
  staticTypes := #[.int, .int, .int]
  resolved := Array.replicate 87 none
  statics := none }

def pool3 : Array CpInfo := pool [(1, .class_ 2), (0, u "java/lang/Math"), (1, .class_ 6), (1, u "java/lang/Object"), (0, u "<init>"), (0, u "()V"), (89, .class_ 100), (1, u "java/lang/Math$RandomNumberGeneratorHolder"), (71, u "negativeZeroFloatBits"), (0, u "J"), (2, u "negativeZeroDoubleBits"), (21, u "max"), (2, u "min"), (43, u "$assertionsDisabled"), (0, u "Z"), (88, u "(II)I"), (2, u "twoToTheDoubleScaleDown"), (0, u "D"), (4, u "twoToTheDoubleScaleUp"), (9, u "E"), (3, u "PI"), (2, u "TAU"), (2, u "DEGREES_TO_RADIANS"), (0, u "RADIANS_TO_DEGREES")] 94

def k3m0 : Method := { name := "<init>", desc := "()V", sig := { parameters := [], returnType := none }, accessFlags := 2, code := none }
def k3c1 : Code := { maxStack := 2, maxLocals := 2, code := jdk_29_method_65_code, exceptionTable := #[], attributes := #[] }
def k3m1 : Method := { name := "max", desc := "(II)I", sig := { parameters := [.int, .int], returnType := some .int }, accessFlags := 9, code := some k3c1 }
def k3c2 : Code := { maxStack := 2, maxLocals := 2, code := jdk_29_method_69_code, exceptionTable := #[], attributes := #[] }
def k3m2 : Method := { name := "min", desc := "(II)I", sig := { parameters := [.int, .int], returnType := some .int }, accessFlags := 9, code := some k3c2 }
/-- java/lang/Math -/
def k3 : Class := { plain "java/lang/Math" (some 0) with
  accessFlags := 49
  interfaces := #[]
  cf := some (fileOf pool3 1 #[.nestMembers #[98]] #[{ accessFlags := 2, nameIndex := 7, descriptorIndex := 8, attributes := #[] }, { accessFlags := 9, nameIndex := 198, descriptorIndex := 335, attributes := #[] }, { accessFlags := 9, nameIndex := 201, descriptorIndex := 335, attributes := #[] }] 49 4 #[] #[{ accessFlags := 25, nameIndex := 354, descriptorIndex := 339, attributes := #[] }, { accessFlags := 25, nameIndex := 358, descriptorIndex := 339, attributes := #[] }, { accessFlags := 25, nameIndex := 361, descriptorIndex := 339, attributes := #[] }, { accessFlags := 26, nameIndex := 364, descriptorIndex := 339, attributes := #[] }, { accessFlags := 26, nameIndex := 365, descriptorIndex := 339, attributes := #[] }, { accessFlags := 26, nameIndex := 172, descriptorIndex := 173, attributes := #[] }, { accessFlags := 26, nameIndex := 176, descriptorIndex := 173, attributes := #[] }, { accessFlags := 8, nameIndex := 344, descriptorIndex := 339, attributes := #[] }, { accessFlags := 8, nameIndex := 338, descriptorIndex := 339, attributes := #[] }, { accessFlags := 4120, nameIndex := 245, descriptorIndex := 246, attributes := #[] }])
  fields := #[{ name := "E", type := .double, accessFlags := 25, slot := 0, constantValue := 0 }, { name := "PI", type := .double, accessFlags := 25, slot := 1, constantValue := 0 }, { name := "TAU", type := .double, accessFlags := 25, slot := 2, constantValue := 0 }, { name := "DEGREES_TO_RADIANS", type := .double, accessFlags := 26, slot := 3, constantValue := 0 }, { name := "RADIANS_TO_DEGREES", type := .double, accessFlags := 26, slot := 4, constantValue := 0 }, { name := "negativeZeroFloatBits", type := .long, accessFlags := 26, slot := 5, constantValue := 0 }, { name := "negativeZeroDoubleBits", type := .long, accessFlags := 26, slot := 6, constantValue := 0 }, { name := "twoToTheDoubleScaleUp", type := .double, accessFlags := 8, slot := 7, constantValue := 0 }, { name := "twoToTheDoubleScaleDown", type := .double, accessFlags := 8, slot := 8, constantValue := 0 }, { name := "$assertionsDisabled", type := .boolean, accessFlags := 4120, slot := 9, constantValue := 0 }]
  methods := #[k3m0, k3m1, k3m2]
  instanceTypes := #[]
  staticTypes := #[.double, .double, .double, .double, .double, .long, .long, .double, .double, .boolean]
  resolved := Array.replicate 460 none
  statics := none }

def pool4 : Array CpInfo := pool [(2, .class_ 4), (1, u "java/lang/Object"), (0, u "<init>"), (0, u "()V"), (7, .class_ 16), (1, u "java/util/Arrays"), (57, .class_ 76), (1, u "java/util/Arrays$NaturalOrder"), (36, .class_ 115), (1, u "java/util/Arrays$LegacyMergeSort"), (1, u "Z"), (32, .methodref 151 152), (0, .class_ 153), (0, .nameAndType 154 155), (0, u "java/lang/System"), (0, u "arraycopy"), (0, u "(Ljava/lang/Object;ILjava/lang/Object;II)V"), (146, u "copyOf"), (1, .methodref 305 306), (0, .class_ 307), (0, .nameAndType 308 309), (0, u "java/lang/Math"), (0, u "min"), (0, u "(II)I"), (65, .class_ 376), (0, u "java/util/Arrays$ArrayList"), (68, u "$assertionsDisabled"), (269, u "MIN_ARRAY_SORT_GRAN"), (0, u "I"), (2, u "INSERTIONSORT_THRESHOLD"), (151, u "([II)[I"), (103, .class_ 976), (0, u "java/util/Arrays$ArrayItr")] 52

def k4m0 : Method := { name := "<init>", desc := "()V", sig := { parameters := [], returnType := none }, accessFlags := 2, code := none }
def k4c1 : Code := { maxStack := 6, maxLocals := 3, code := jdk_65_method_123_code, exceptionTable := #[], attributes := #[] }
def k4m1 : Method := { name := "copyOf", desc := "([II)[I", sig := { parameters := [(.array .int), .int], returnType := some (.array .int) }, accessFlags := 9, code := some k4c1 }
/-- java/util/Arrays -/
def k4 : Class := { plain "java/util/Arrays" (some 0) with
  accessFlags := 49
  interfaces := #[]
  cf := some (fileOf pool4 14 #[.nestMembers #[975, 375, 113, 74]] #[{ accessFlags := 2, nameIndex := 5, descriptorIndex := 6, attributes := #[] }, { accessFlags := 9, nameIndex := 302, descriptorIndex := 871, attributes := #[] }] 49 2 #[] #[{ accessFlags := 26, nameIndex := 715, descriptorIndex := 716, attributes := #[] }, { accessFlags := 26, nameIndex := 719, descriptorIndex := 716, attributes := #[] }, { accessFlags := 4120, nameIndex := 445, descriptorIndex := 117, attributes := #[] }])
  fields := #[{ name := "MIN_ARRAY_SORT_GRAN", type := .int, accessFlags := 26, slot := 0, constantValue := 0 }, { name := "INSERTIONSORT_THRESHOLD", type := .int, accessFlags := 26, slot := 1, constantValue := 0 }, { name := "$assertionsDisabled", type := .boolean, accessFlags := 4120, slot := 2, constantValue := 0 }]
  methods := #[k4m0, k4m1]
  instanceTypes := #[]
  staticTypes := #[.int, .int, .boolean]
  resolved := Array.replicate 1029 none
  statics := none }

def pool5 : Array CpInfo := pool [(2, .class_ 4), (1, u "java/lang/Object"), (0, u "<init>"), (0, u "()V"), (1, .class_ 10), (1, u "java/lang/System"), (0, u "allowSecurityManager"), (0, u "I"), (16, u "cons"), (0, u "Ljava/io/Console;"), (77, .class_ 110), (1, u "java/lang/System$CallersHolder"), (43, u "initialErrStream"), (0, u "Ljava/io/PrintStream;"), (19, u "security"), (0, u "Ljava/lang/SecurityManager;"), (31, .class_ 209), (0, u "java/lang/System$1"), (7, u "props"), (0, u "Ljava/util/Properties;"), (2, u "lineSeparator"), (0, u "Ljava/lang/String;"), (96, .class_ 321), (1, u "java/lang/System$LoggerFinder"), (5, .class_ 328), (0, u "java/lang/System$Logger"), (67, u "err"), (2, u "out"), (91, u "notSupportedJnuEncoding"), (15, u "in"), (17, u "initialIn"), (0, u "Ljava/io/InputStream;"), (35, u "bootLayer"), (0, u "Ljava/lang/ModuleLayer;"), (99, .class_ 664), (0, u "java/lang/System$2"), (9, u "NEVER"), (2, u "MAYBE"), (49, u "arraycopy"), (0, u "(Ljava/lang/Object;ILjava/lang/Object;II)V"), (72, .class_ 802), (0, u "java/lang/System$Logger$Level")] 31

def k5m0 : Method := { name := "<init>", desc := "()V", sig := { parameters := [], returnType := none }, accessFlags := 2, code := none }
def k5m1 : Method := { name := "arraycopy", desc := "(Ljava/lang/Object;ILjava/lang/Object;II)V", sig := { parameters := [(.object "java/lang/Object"), .int, (.object "java/lang/Object"), .int, .int], returnType := none }, accessFlags := 265, code := none }
/-- java/lang/System -/
def k5 : Class := { plain "java/lang/System" (some 0) with
  accessFlags := 49
  interfaces := #[]
  cf := some (fileOf pool5 8 #[.nestMembers #[319, 327, 801, 108, 663, 208]] #[{ accessFlags := 2, nameIndex := 5, descriptorIndex := 6, attributes := #[] }, { accessFlags := 265, nameIndex := 727, descriptorIndex := 728, attributes := #[] }] 49 2 #[] #[{ accessFlags := 25, nameIndex := 507, descriptorIndex := 526, attributes := #[] }, { accessFlags := 25, nameIndex := 399, descriptorIndex := 155, attributes := #[] }, { accessFlags := 25, nameIndex := 396, descriptorIndex := 155, attributes := #[] }, { accessFlags := 10, nameIndex := 525, descriptorIndex := 526, attributes := #[] }, { accessFlags := 26, nameIndex := 674, descriptorIndex := 12, attributes := #[] }, { accessFlags := 26, nameIndex := 677, descriptorIndex := 12, attributes := #[] }, { accessFlags := 10, nameIndex := 11, descriptorIndex := 12, attributes := #[] }, { accessFlags := 74, nameIndex := 175, descriptorIndex := 176, attributes := #[] }, { accessFlags := 10, nameIndex := 491, descriptorIndex := 222, attributes := #[] }, { accessFlags := 74, nameIndex := 29, descriptorIndex := 30, attributes := #[] }, { accessFlags := 74, nameIndex := 154, descriptorIndex := 155, attributes := #[] }, { accessFlags := 10, nameIndex := 217, descriptorIndex := 218, attributes := #[] }, { accessFlags := 10, nameIndex := 221, descriptorIndex := 222, attributes := #[] }, { accessFlags := 8, nameIndex := 562, descriptorIndex := 563, attributes := #[] }])
  fields := #[{ name := "in", type := (.object "java/io/InputStream"), accessFlags := 25, slot := 0, constantValue := 0 }, { name := "out", type := (.object "java/io/PrintStream"), accessFlags := 25, slot := 1, constantValue := 0 }, { name := "err", type := (.object "java/io/PrintStream"), accessFlags := 25, slot := 2, constantValue := 0 }, { name := "initialIn", type := (.object "java/io/InputStream"), accessFlags := 10, slot := 3, constantValue := 0 }, { name := "NEVER", type := .int, accessFlags := 26, slot := 4, constantValue := 0 }, { name := "MAYBE", type := .int, accessFlags := 26, slot := 5, constantValue := 0 }, { name := "allowSecurityManager", type := .int, accessFlags := 10, slot := 6, constantValue := 0 }, { name := "security", type := (.object "java/lang/SecurityManager"), accessFlags := 74, slot := 7, constantValue := 0 }, { name := "notSupportedJnuEncoding", type := (.object "java/lang/String"), accessFlags := 10, slot := 8, constantValue := 0 }, { name := "cons", type := (.object "java/io/Console"), accessFlags := 74, slot := 9, constantValue := 0 }, { name := "initialErrStream", type := (.object "java/io/PrintStream"), accessFlags := 74, slot := 10, constantValue := 0 }, { name := "props", type := (.object "java/util/Properties"), accessFlags := 10, slot := 11, constantValue := 0 }, { name := "lineSeparator", type := (.object "java/lang/String"), accessFlags := 10, slot := 12, constantValue := 0 }, { name := "bootLayer", type := (.object "java/lang/ModuleLayer"), accessFlags := 8, slot := 13, constantValue := 0 }]
  methods := #[k5m0, k5m1]
  instanceTypes := #[]
  staticTypes := #[(.object "java/io/InputStream"), (.object "java/io/PrintStream"), (.object "java/io/PrintStream"), (.object "java/io/InputStream"), .int, .int, .int, (.object "java/lang/SecurityManager"), (.object "java/lang/String"), (.object "java/io/Console"), (.object "java/io/PrintStream"), (.object "java/util/Properties"), (.object "java/lang/String"), (.object "java/lang/ModuleLayer")]
  resolved := Array.replicate 834 none
  statics := none }

def pool6 : Array CpInfo := pool [(1, .class_ 2), (0, u "java/io/Serializable"), (0, .class_ 4), (0, u "java/lang/Object")] 2

/-- java/io/Serializable -/
def k6 : Class := { plain "java/io/Serializable" (some 0) with
  accessFlags := 1537
  interfaces := #[]
  cf := some (fileOf pool6 1 #[] #[] 1537 3 #[] #[])
  fields := #[]
  methods := #[]
  instanceTypes := #[]
  staticTypes := #[]
  resolved := Array.replicate 7 none
  statics := none }

def pool7 : Array CpInfo := pool [(2, .class_ 4), (1, u "java/lang/Object"), (0, u "<init>"), (0, u "()V"), (1, .class_ 10), (1, u "java/lang/Number"), (2, .class_ 14), (0, u "java/io/Serializable"), (0, u "serialVersionUID"), (0, u "J")] 20

def k7m0 : Method := { name := "<init>", desc := "()V", sig := { parameters := [], returnType := none }, accessFlags := 1, code := none }
/-- java/lang/Number -/
def k7 : Class := { plain "java/lang/Number" (some 0) with
  accessFlags := 1057
  interfaces := #[6]
  cf := some (fileOf pool7 8 #[] #[{ accessFlags := 1, nameIndex := 5, descriptorIndex := 6, attributes := #[] }] 1057 2 #[13] #[{ accessFlags := 26, nameIndex := 15, descriptorIndex := 16, attributes := #[] }])
  fields := #[{ name := "serialVersionUID", type := .long, accessFlags := 26, slot := 0, constantValue := 0 }]
  methods := #[k7m0]
  instanceTypes := #[]
  staticTypes := #[.long]
  resolved := Array.replicate 37 none
  statics := none }

def pool8 : Array CpInfo := pool [(1, .class_ 2), (0, u "java/lang/Comparable"), (0, .class_ 4), (0, u "java/lang/Object")] 7

/-- java/lang/Comparable -/
def k8 : Class := { plain "java/lang/Comparable" (some 0) with
  accessFlags := 1537
  interfaces := #[]
  cf := some (fileOf pool8 1 #[] #[] 1537 3 #[] #[])
  fields := #[]
  methods := #[]
  instanceTypes := #[]
  staticTypes := #[]
  resolved := Array.replicate 12 none
  statics := none }

def pool9 : Array CpInfo := pool [(1, .class_ 2), (0, u "java/lang/constant/Constable"), (0, .class_ 4), (0, u "java/lang/Object")] 6

/-- java/lang/constant/Constable -/
def k9 : Class := { plain "java/lang/constant/Constable" (some 0) with
  accessFlags := 1537
  interfaces := #[]
  cf := some (fileOf pool9 1 #[] #[] 1537 3 #[] #[])
  fields := #[]
  methods := #[]
  instanceTypes := #[]
  staticTypes := #[]
  resolved := Array.replicate 11 none
  statics := none }

def pool10 : Array CpInfo := pool [(1, .class_ 2), (0, u "java/lang/constant/ConstantDesc"), (0, .class_ 4), (0, u "java/lang/Object")] 32

/-- java/lang/constant/ConstantDesc -/
def k10 : Class := { plain "java/lang/constant/ConstantDesc" (some 0) with
  accessFlags := 1537
  interfaces := #[]
  cf := some (fileOf pool10 1 #[] #[] 1537 3 #[] #[])
  fields := #[]
  methods := #[]
  instanceTypes := #[]
  staticTypes := #[]
  resolved := Array.replicate 37 none
  statics := none }

def pool11 : Array CpInfo := pool [(1, .class_ 2), (0, u "java/lang/Integer"), (16, u "digits"), (0, u "[C"), (32, u "numberOfLeadingZeros"), (0, u "(I)I"), (30, u "DigitOnes"), (0, u "[B"), (2, u "DigitTens"), (99, .class_ 190), (0, u "java/lang/Integer$IntegerCache"), (3, u "I"), (8, .class_ 204), (0, u "java/lang/Number"), (2, u "value"), (56, .integer 65536), (37, u "TYPE"), (0, u "Ljava/lang/Class;"), (0, .class_ 305), (0, u "java/lang/Comparable"), (0, .class_ 307), (0, u "java/lang/constant/Constable"), (0, .class_ 309), (0, u "java/lang/constant/ConstantDesc"), (0, u "MIN_VALUE"), (1, u "MAX_VALUE"), (3, u "SIZE"), (1, u "BYTES"), (1, u "serialVersionUID"), (0, u "J")] 131

def k11c0 : Code := { maxStack := 3, maxLocals := 2, code := jdk_33_method_47_code, exceptionTable := #[], attributes := #[] }
def k11m0 : Method := { name := "numberOfLeadingZeros", desc := "(I)I", sig := { parameters := [.int], returnType := some .int }, accessFlags := 9, code := some k11c0 }
/-- java/lang/Integer -/
def k11 : Class := { plain "java/lang/Integer" (some 7) with
  accessFlags := 49
  interfaces := #[8, 9, 10]
  cf := some (fileOf pool11 1 #[.nestMembers #[189]] #[{ accessFlags := 9, nameIndex := 53, descriptorIndex := 54, attributes := #[] }] 49 203 #[304, 306, 308] #[{ accessFlags := 25, nameIndex := 310, descriptorIndex := 194, attributes := #[] }, { accessFlags := 25, nameIndex := 312, descriptorIndex := 194, attributes := #[] }, { accessFlags := 25, nameIndex := 302, descriptorIndex := 303, attributes := #[] }, { accessFlags := 24, nameIndex := 19, descriptorIndex := 20, attributes := #[] }, { accessFlags := 24, nameIndex := 89, descriptorIndex := 86, attributes := #[] }, { accessFlags := 24, nameIndex := 85, descriptorIndex := 86, attributes := #[] }, { accessFlags := 18, nameIndex := 207, descriptorIndex := 194, attributes := #[] }, { accessFlags := 25, nameIndex := 316, descriptorIndex := 194, attributes := #[] }, { accessFlags := 25, nameIndex := 318, descriptorIndex := 194, attributes := #[] }, { accessFlags := 26, nameIndex := 320, descriptorIndex := 321, attributes := #[] }])
  fields := #[{ name := "MIN_VALUE", type := .int, accessFlags := 25, slot := 0, constantValue := 0 }, { name := "MAX_VALUE", type := .int, accessFlags := 25, slot := 1, constantValue := 0 }, { name := "TYPE", type := (.object "java/lang/Class"), accessFlags := 25, slot := 2, constantValue := 0 }, { name := "digits", type := (.array .char), accessFlags := 24, slot := 3, constantValue := 0 }, { name := "DigitTens", type := (.array .byte), accessFlags := 24, slot := 4, constantValue := 0 }, { name := "DigitOnes", type := (.array .byte), accessFlags := 24, slot := 5, constantValue := 0 }, { name := "value", type := .int, accessFlags := 18, slot := 0, constantValue := 0 }, { name := "SIZE", type := .int, accessFlags := 25, slot := 6, constantValue := 0 }, { name := "BYTES", type := .int, accessFlags := 25, slot := 7, constantValue := 0 }, { name := "serialVersionUID", type := .long, accessFlags := 26, slot := 8, constantValue := 0 }]
  methods := #[k11m0]
  instanceTypes := #[.int]
  staticTypes := #[.int, .int, (.object "java/lang/Class"), (.array .char), (.array .byte), (.array .byte), .int, .int, .long]
  resolved := Array.replicate 453 none
  statics := none }

def pool12 : Array CpInfo := pool [(1, u "java/lang/Cloneable"), (0, .class_ 1), (0, u "java/lang/Object"), (0, .class_ 3)] 3

/-- java/lang/Cloneable -/
def k12 : Class := { plain "java/lang/Cloneable" (some 0) with
  accessFlags := 1537
  interfaces := #[]
  cf := some (fileOf pool12 2 #[] #[] 1537 4 #[] #[])
  fields := #[]
  methods := #[]
  instanceTypes := #[]
  staticTypes := #[]
  resolved := Array.replicate 8 none
  statics := none }

/-- the primitive byte -/
def k13 : Class := { plain "byte" none with kind := .primitive 'B', accessFlags := 0x411 }
/-- [B -/
def k14 : Class := { plain "[B" (some 0) with kind := .array 13 .byte, interfaces := #[12, 6], accessFlags := 1041 }

/-- the primitive int -/
def k15 : Class := { plain "int" none with kind := .primitive 'I', accessFlags := 0x411 }
/-- [I -/
def k16 : Class := { plain "[I" (some 0) with kind := .array 15 .int, interfaces := #[12, 6], accessFlags := 1041 }

def heap : Heap := #[]
def classes : Array Class := #[k0, k1, k2, k3, k4, k5, k6, k7, k8, k9, k10, k11, k12, k13, k14, k15, k16]
def interned : List (Array UInt16 × Addr) := []
def slotsUsed : Nat := 0
def theMethod : MethodId := ⟨1, 3⟩
def args0 : Array Value := #[.int 0, .int 1, .int 2, .int 3, .int 4, .int 5]
def aboutOver (below : List Frame) : State where
  vm := { classes := classes, interned := interned.toArray }
  heap := heap
  slotsUsed := slotsUsed
  threads := #[{ frames := .invoking theMethod args0 :: below }]
def below0 : List Frame := [.native { method := ⟨0, 0⟩, args := #[] }]
def about1 : State := aboutOver below0
def p0 : Program := .bare "" "" ""
def e0 : Env := launch0.env 0 0 0
theorem w_frames : about1.frames = Frame.invoking theMethod args0 :: below0 := rfl
set_option maxRecDepth 65536 in
theorem w_args : argsFit about1.vm theMethod args0 = true := by decide +kernel
set_option maxRecDepth 65536 in
theorem w_heap : heapFits about1 = true := by decide +kernel
set_option maxRecDepth 65536 in
theorem w_runnable : about1.curStatus? = some .runnable := by decide +kernel
set_option maxRecDepth 65536 in
theorem w_alone : about1.alone = true := by decide +kernel
set_option maxRecDepth 65536 in
theorem w_named : about1.methodNamed? x = some theMethod := by decide +kernel
set_option maxRecDepth 65536 in
theorem w_hears : about1.hears theMethod below0 = true := by decide +kernel
set_option maxRecDepth 65536 in
theorem w_ripe : about1.ripe theMethod args0 below0 = true := by decide +kernel
theorem w_running : about1.status = .running := rfl
set_option maxRecDepth 65536 in
theorem w_room : about1.hasRoom e0.platform room_1 = true :=
  launch0.hasRoom_least _ room_1 (by decide +kernel) (by decide +kernel) (by decide +kernel) (by decide +kernel) (by decide +kernel) (by decide +kernel)
theorem allAtoms_all (ts : List Jvm.Cond) (a : Array Jvm.Value) (st : Jvm.State) : (allAtoms ts).before a st = ts.all (fun c => c.before a st) := by
  induction ts with
  | nil => rfl
  | cons c t ih =>
    show (Jvm.Cond.and c (allAtoms t)).before a st = _
    rw [Jvm.Cond.before_and, ih, List.all_cons]
def words1 : List Jvm.Cond := Jvm.Cond.code x code maxLocals ret :: tables_1
/-- a 'code' word, met by the world's own term for the bytes: nothing is compared byte by byte -/
theorem code_word {y : MethodName} {bytes : ByteArray} {mx : Nat} {rt : Option FieldType} {a : Array Value} {s : State} {m : MethodId} {meth : Method} {c : Code} (h1 : s.methodNamed? y = some m) (h2 : s.vm.method? m = some meth) (h3 : meth.code = some c) (h4 : c.code = bytes)
    (h5 : (c.maxLocals == mx && c.exceptionTable.isEmpty && decide (c.maxStack ≤ mostOperands) && decide (meth.sig.returnType = rt) && !meth.locks && decide (parseMethodDescriptor y.desc = some meth.sig)) = true) : (Jvm.Cond.code y bytes mx rt).before a s = true := by
  simp only [Bool.and_eq_true, beq_iff_eq, Bool.not_eq_true', decide_eq_true_eq] at h5
  obtain ⟨⟨⟨⟨⟨g1, g2⟩, g3⟩, g4⟩, g5⟩, g6⟩ := h5
  simp [Cond.before, Cond.holds, Cond.value, h1, h2, h3, h4, g1, g2, g3, g4, g5, g6]
def isCode : Jvm.Cond → Bool
  | .code _ _ _ _ => true
  | _ => false
theorem all_split {L : List Jvm.Cond} {P : Jvm.Cond → Bool} (h1 : L.all (fun c => isCode c || P c) = true) (h2 : ∀ c ∈ L.filter isCode, P c = true) : L.all P = true := by
  refine List.all_eq_true.mpr fun c hc => ?_
  have h := List.all_eq_true.mp h1 c hc
  rcases Bool.eq_false_or_eq_true (isCode c) with hi | hi
  · exact h2 c (List.mem_filter.mpr ⟨hc, hi⟩)
  · simpa [hi] using h
set_option maxRecDepth 65536 in
theorem w_c0 : (Jvm.Cond.code x code maxLocals ret).before args0 about1 = true := code_word (m := ⟨1, 3⟩) (meth := k1m3) (c := k1c3) (by decide +kernel) rfl rfl rfl (by decide +kernel)
set_option maxRecDepth 65536 in
theorem w_c1 : (Jvm.Cond.code ({ cls := "com/example/bindery/bindery/PartIndex", name := "<init>", desc := "(I)V" } : Jvm.MethodName) prog_150_method_1_code (2 : Nat) (Option.none : Option Jvm.ClassFile.FieldType)).before args0 about1 = true := code_word (m := ⟨2, 0⟩) (meth := k2m0) (c := k2c0) (by decide +kernel) rfl rfl rfl (by decide +kernel)
set_option maxRecDepth 65536 in
theorem w_c2 : (Jvm.Cond.code ({ cls := "java/lang/Object", name := "<init>", desc := "()V" } : Jvm.MethodName) object_method_1_code (1 : Nat) (Option.none : Option Jvm.ClassFile.FieldType)).before args0 about1 = true := code_word (m := ⟨0, 0⟩) (meth := k0m0) (c := k0c0) (by decide +kernel) rfl rfl rfl (by decide +kernel)
set_option maxRecDepth 65536 in
theorem w_c3 : (Jvm.Cond.code ({ cls := "com/example/bindery/bindery/PartIndex", name := "room", desc := "(I)I" } : Jvm.MethodName) prog_150_method_2_code (1 : Nat) (Option.some Jvm.ClassFile.FieldType.int)).before args0 about1 = true := code_word (m := ⟨2, 1⟩) (meth := k2m1) (c := k2c1) (by decide +kernel) rfl rfl rfl (by decide +kernel)
set_option maxRecDepth 65536 in
theorem w_c4 : (Jvm.Cond.code ({ cls := "java/lang/Math", name := "max", desc := "(II)I" } : Jvm.MethodName) jdk_29_method_65_code (2 : Nat) (Option.some Jvm.ClassFile.FieldType.int)).before args0 about1 = true := code_word (m := ⟨3, 1⟩) (meth := k3m1) (c := k3c1) (by decide +kernel) rfl rfl rfl (by decide +kernel)
set_option maxRecDepth 65536 in
theorem w_c5 : (Jvm.Cond.code ({ cls := "java/lang/Math", name := "min", desc := "(II)I" } : Jvm.MethodName) jdk_29_method_69_code (2 : Nat) (Option.some Jvm.ClassFile.FieldType.int)).before args0 about1 = true := code_word (m := ⟨3, 2⟩) (meth := k3m2) (c := k3c2) (by decide +kernel) rfl rfl rfl (by decide +kernel)
set_option maxRecDepth 65536 in
theorem w_c6 : (Jvm.Cond.code ({ cls := "com/example/bindery/bindery/PartIndex", name := "entryAt", desc := "(I)I" } : Jvm.MethodName) prog_150_method_6_code (2 : Nat) (Option.some Jvm.ClassFile.FieldType.int)).before args0 about1 = true := code_word (m := ⟨2, 3⟩) (meth := k2m3) (c := k2c3) (by decide +kernel) rfl rfl rfl (by decide +kernel)
set_option maxRecDepth 65536 in
theorem w_c7 : (Jvm.Cond.code ({ cls := "com/example/bindery/bindery/PartIndexEntryAtPinLaw", name := "few", desc := "(II)I" } : Jvm.MethodName) method_2_code (2 : Nat) (Option.some Jvm.ClassFile.FieldType.int)).before args0 about1 = true := code_word (m := ⟨1, 1⟩) (meth := k1m1) (c := k1c1) (by decide +kernel) rfl rfl rfl (by decide +kernel)
set_option maxRecDepth 65536 in
theorem w_c8 : (Jvm.Cond.code ({ cls := "com/example/bindery/bindery/PartIndex", name := "add", desc := "(I)V" } : Jvm.MethodName) prog_150_method_9_code (2 : Nat) (Option.none : Option Jvm.ClassFile.FieldType)).before args0 about1 = true := code_word (m := ⟨2, 5⟩) (meth := k2m5) (c := k2c5) (by decide +kernel) rfl rfl rfl (by decide +kernel)
set_option maxRecDepth 65536 in
theorem w_c9 : (Jvm.Cond.code ({ cls := "java/util/Arrays", name := "copyOf", desc := "([II)[I" } : Jvm.MethodName) jdk_65_method_123_code (3 : Nat) (Option.some (Jvm.ClassFile.FieldType.array Jvm.ClassFile.FieldType.int))).before args0 about1 = true := code_word (m := ⟨4, 1⟩) (meth := k4m1) (c := k4c1) (by decide +kernel) rfl rfl rfl (by decide +kernel)
set_option maxRecDepth 65536 in
theorem w_c10 : (Jvm.Cond.code ({ cls := "com/example/bindery/bindery/PartIndex", name := "makeSlots", desc := "(I)V" } : Jvm.MethodName) prog_150_method_11_code (4 : Nat) (Option.none : Option Jvm.ClassFile.FieldType)).before args0 about1 = true := code_word (m := ⟨2, 6⟩) (meth := k2m6) (c := k2c6) (by decide +kernel) rfl rfl rfl (by decide +kernel)
set_option maxRecDepth 65536 in
theorem w_c11 : (Jvm.Cond.code ({ cls := "java/lang/Integer", name := "numberOfLeadingZeros", desc := "(I)I" } : Jvm.MethodName) jdk_33_method_47_code (2 : Nat) (Option.some Jvm.ClassFile.FieldType.int)).before args0 about1 = true := code_word (m := ⟨11, 0⟩) (meth := k11m0) (c := k11c0) (by decide +kernel) rfl rfl rfl (by decide +kernel)
set_option maxRecDepth 65536 in
theorem w_c12 : (Jvm.Cond.code ({ cls := "com/example/bindery/bindery/PartIndex", name := "place", desc := "(I)V" } : Jvm.MethodName) prog_150_method_12_code (3 : Nat) (Option.none : Option Jvm.ClassFile.FieldType)).before args0 about1 = true := code_word (m := ⟨2, 7⟩) (meth := k2m7) (c := k2c7) (by decide +kernel) rfl rfl rfl (by decide +kernel)
set_option maxRecDepth 65536 in
theorem w_c13 : (Jvm.Cond.code ({ cls := "com/example/bindery/bindery/PartIndex", name := "start", desc := "(I)I" } : Jvm.MethodName) prog_150_method_5_code (2 : Nat) (Option.some Jvm.ClassFile.FieldType.int)).before args0 about1 = true := code_word (m := ⟨2, 2⟩) (meth := k2m2) (c := k2c2) (by decide +kernel) rfl rfl rfl (by decide +kernel)
set_option maxRecDepth 65536 in
theorem w_c14 : (Jvm.Cond.code ({ cls := "com/example/bindery/bindery/PartIndex", name := "after", desc := "(I)I" } : Jvm.MethodName) prog_150_method_7_code (2 : Nat) (Option.some Jvm.ClassFile.FieldType.int)).before args0 about1 = true := code_word (m := ⟨2, 4⟩) (meth := k2m4) (c := k2c4) (by decide +kernel) rfl rfl rfl (by decide +kernel)
set_option maxRecDepth 65536 in
theorem w_c15 : (Jvm.Cond.code ({ cls := "com/example/bindery/bindery/PartIndexEntryAtPinLaw", name := "slot", desc := "(IIIII)I" } : Jvm.MethodName) method_3_code (5 : Nat) (Option.some Jvm.ClassFile.FieldType.int)).before args0 about1 = true := code_word (m := ⟨1, 2⟩) (meth := k1m2) (c := k1c2) (by decide +kernel) rfl rfl rfl (by decide +kernel)
def codes1 : List Jvm.Cond := [Jvm.Cond.code x code maxLocals ret, Jvm.Cond.code ({ cls := "com/example/bindery/bindery/PartIndex", name := "<init>", desc := "(I)V" } : Jvm.MethodName) prog_150_method_1_code (2 : Nat) (Option.none : Option Jvm.ClassFile.FieldType), Jvm.Cond.code ({ cls := "java/lang/Object", name := "<init>", desc := "()V" } : Jvm.MethodName) object_method_1_code (1 : Nat) (Option.none : Option Jvm.ClassFile.FieldType), Jvm.Cond.code ({ cls := "com/example/bindery/bindery/PartIndex", name := "room", desc := "(I)I" } : Jvm.MethodName) prog_150_method_2_code (1 : Nat) (Option.some Jvm.ClassFile.FieldType.int), Jvm.Cond.code ({ cls := "java/lang/Math", name := "max", desc := "(II)I" } : Jvm.MethodName) jdk_29_method_65_code (2 : Nat) (Option.some Jvm.ClassFile.FieldType.int), Jvm.Cond.code ({ cls := "java/lang/Math", name := "min", desc := "(II)I" } : Jvm.MethodName) jdk_29_method_69_code (2 : Nat) (Option.some Jvm.ClassFile.FieldType.int), Jvm.Cond.code ({ cls := "com/example/bindery/bindery/PartIndex", name := "entryAt", desc := "(I)I" } : Jvm.MethodName) prog_150_method_6_code (2 : Nat) (Option.some Jvm.ClassFile.FieldType.int), Jvm.Cond.code ({ cls := "com/example/bindery/bindery/PartIndexEntryAtPinLaw", name := "few", desc := "(II)I" } : Jvm.MethodName) method_2_code (2 : Nat) (Option.some Jvm.ClassFile.FieldType.int), Jvm.Cond.code ({ cls := "com/example/bindery/bindery/PartIndex", name := "add", desc := "(I)V" } : Jvm.MethodName) prog_150_method_9_code (2 : Nat) (Option.none : Option Jvm.ClassFile.FieldType), Jvm.Cond.code ({ cls := "java/util/Arrays", name := "copyOf", desc := "([II)[I" } : Jvm.MethodName) jdk_65_method_123_code (3 : Nat) (Option.some (Jvm.ClassFile.FieldType.array Jvm.ClassFile.FieldType.int)), Jvm.Cond.code ({ cls := "com/example/bindery/bindery/PartIndex", name := "makeSlots", desc := "(I)V" } : Jvm.MethodName) prog_150_method_11_code (4 : Nat) (Option.none : Option Jvm.ClassFile.FieldType), Jvm.Cond.code ({ cls := "java/lang/Integer", name := "numberOfLeadingZeros", desc := "(I)I" } : Jvm.MethodName) jdk_33_method_47_code (2 : Nat) (Option.some Jvm.ClassFile.FieldType.int), Jvm.Cond.code ({ cls := "com/example/bindery/bindery/PartIndex", name := "place", desc := "(I)V" } : Jvm.MethodName) prog_150_method_12_code (3 : Nat) (Option.none : Option Jvm.ClassFile.FieldType), Jvm.Cond.code ({ cls := "com/example/bindery/bindery/PartIndex", name := "start", desc := "(I)I" } : Jvm.MethodName) prog_150_method_5_code (2 : Nat) (Option.some Jvm.ClassFile.FieldType.int), Jvm.Cond.code ({ cls := "com/example/bindery/bindery/PartIndex", name := "after", desc := "(I)I" } : Jvm.MethodName) prog_150_method_7_code (2 : Nat) (Option.some Jvm.ClassFile.FieldType.int), Jvm.Cond.code ({ cls := "com/example/bindery/bindery/PartIndexEntryAtPinLaw", name := "slot", desc := "(IIIII)I" } : Jvm.MethodName) method_3_code (5 : Nat) (Option.some Jvm.ClassFile.FieldType.int)]
set_option maxRecDepth 65536 in
theorem codes_eq : words1.filter isCode = codes1 := rfl
theorem w_codes : ∀ c ∈ words1.filter isCode, c.before args0 about1 = true := by
  rw [codes_eq]
  intro c hc
  simp only [codes1, List.mem_cons, List.not_mem_nil, or_false] at hc
  rcases hc with rfl | rfl | rfl | rfl | rfl | rfl | rfl | rfl | rfl | rfl | rfl | rfl | rfl | rfl | rfl | rfl
  · exact w_c0
  · exact w_c1
  · exact w_c2
  · exact w_c3
  · exact w_c4
  · exact w_c5
  · exact w_c6
  · exact w_c7
  · exact w_c8
  · exact w_c9
  · exact w_c10
  · exact w_c11
  · exact w_c12
  · exact w_c13
  · exact w_c14
  · exact w_c15
set_option maxRecDepth 65536 in
theorem w_t1 : (words1.take 24).all (fun c => isCode c || c.before args0 about1) = true := by decide +kernel
set_option maxRecDepth 65536 in
theorem w_t2 : ((words1.drop 24).take 24).all (fun c => isCode c || c.before args0 about1) = true := by decide +kernel
set_option maxRecDepth 65536 in
theorem w_t3 : (((words1.drop 24).drop 24).take 24).all (fun c => isCode c || c.before args0 about1) = true := by decide +kernel
set_option maxRecDepth 65536 in
theorem w_t4 : (((words1.drop 24).drop 24).drop 24).all (fun c => isCode c || c.before args0 about1) = true := by decide +kernel
theorem w_tables : (allAtoms (Jvm.Cond.code x code maxLocals ret :: tables_1)).before args0 about1 = true := by
  rw [allAtoms_all]
  show words1.all (fun c => c.before args0 about1) = true
  refine all_split ?_ w_codes
  rw [← List.take_append_drop 24 words1, List.all_append, w_t1, ← List.take_append_drop 24 (words1.drop 24), List.all_append, w_t2, ← List.take_append_drop 24 ((words1.drop 24).drop 24), List.all_append, w_t3, w_t4]
  rfl
set_option maxRecDepth 65536 in
theorem w_case : (Jvm.Cond.and given_1 narrow_1).before args0 about1 = true := by decide +kernel
theorem w_applies : (headSpec (Jvm.Cond.code x code maxLocals ret :: tables_1) room_1).applies x e0.platform about1 = true :=
  (Spec.applies_iff w_frames).mpr ⟨w_running, w_runnable, w_alone, w_named, w_hears, w_ripe, w_room, w_tables⟩
theorem atStart : AtStart classFile x code maxLocals ret World_1 tables_1 room_1 Calls_1 rest_1 Pre_1 launch0 p0 e0 about1 theMethod args0 below0 :=
  ⟨lists_1, trivial, launch0.admits_env _ _ _, launch0.least_env, fairChoices_fair.cas, fairChoices_fair.clock, w_frames, w_args, w_heap, w_applies, trivial, trivial, w_case⟩
end start1
theorem witness_1 : WitnessClaimed_1 := ⟨start1.p0, start1.e0, start1.about1, start1.theMethod, start1.args0, start1.below0, start1.atStart⟩
end Jvm.Pilot.@@N@@
