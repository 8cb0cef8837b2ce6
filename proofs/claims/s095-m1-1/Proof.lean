import JvmDerived
import JvmDerived.Pilot.@@N@@Statement
import JvmDerived.Pilot.@@N@@Code
set_option linter.unusedVariables false
set_option linter.unusedSimpArgs false
namespace Jvm.Pilot.@@N@@
open Jvm Jvm.ClassFile Sem Op Lib Jvm.Free Jvm.Stand Jvm.LawKit Jvm.RoadKit Bundle Jvm.Pilot.@@N@@.Jvm.D
/-! from the state S the run comes to an end that QQ allows -/
def Goes (p : Program) (e : Env) (below : List Frame) (QQ : Outcome → State → Prop) (S : State) : Prop :=
  ∃ s₂ o, Steps p.tables e below S s₂ ∧ s₂.status = .running ∧ Ended s₂ below o ∧ QQ o s₂
theorem Goes.on {p : Program} {e : Env} {below : List Frame} {QQ : Outcome → State → Prop} {S S' : State} (h : ∀ t, Steps p.tables e below S' t → Steps p.tables e below S t) (g : Goes p e below QQ S') : Goes p e below QQ S := by
  obtain ⟨s₂, o, h1, h2⟩ := g
  exact ⟨s₂, o, h _ h1, h2⟩
theorem Goes.cast {p : Program} {e : Env} {below : List Frame} {QQ : Outcome → State → Prop} {T : State} {g g' : JFrame} (q : g = g') (k : Goes p e below QQ (T.setTop g')) : Goes p e below QQ (T.setTop g) := q ▸ k
def EndsQ (s : State) (Q : Option Value → Heap → List Loc → Prop) (kc ks : Nat) (o : Outcome) (U' : State) : Prop := ∃ v L, o = .returned v ∧ Q v U'.heap L ∧ FrameEnd s o U' L kc ks
/-- a result alone -/
def QP (x : Value) (h0 : Heap) (n0 : Nat) (v : Option Value) (h : Heap) (L : List Loc) : Prop := v = some x ∧ Fr n0 L ∧ h = h0
theorem own_enter {l : Launch} {y : MethodName} {bytes : ByteArray} {maxL : Nat} {rt : Option FieldType} {ws : List Jvm.Cond} {rm : Room} {as' : Array Value} {Q : Option Value → Heap → List Loc → Prop} {Z : State} {h0 : Heap} {kc ks : Nat} (hp : plainFor y = true)
    (body : ∀ (p : Program) (e : Env) (s : State) (m : MethodId) (below : List Frame) (meth : Method) (c : Code) (s₁ : State) (QQ : Outcome → State → Prop), (∀ o U', EndsQ s Q kc ks o U' → QQ o U') → p.tables.exec = Jvm.exec → c.code = bytes → c.maxLocals = maxL → s.vm.findClass y.cls = some m.cls → meth.name = y.name → meth.sig.returnType = rt → meth.locks = false → Z.Warmed39 s.vm → Stand p l e rm s m as' below meth c s₁ [] 0 0 → s₁.heap = h0 →
      Goes p e below QQ (s₁.setTop (entryFrame m as' maxL))) :
    MetFree l y (head1 (Jvm.Cond.code y bytes maxL rt :: ws) rm) (fun a U => a = as' ∧ Z.Warmed39 U.vm ∧ U.heap = h0) (fun _ _ _ _ _ => True) (fun _ U o U' => ∃ v L, o = .returned v ∧ Q v U'.heap L ∧ FrameEnd U o U' L kc ks) := by
  refine MetFree.of_bodySF hp hisR ?_
  intro p e s m args below meth c s₁ Bd hml0 hP hK
  obtain ⟨rfl, hZ, hh⟩ := hP
  exact body p e s m below meth c s₁ _ (fun o U' h => h) Bd.exec Bd.bytes hml0 (findClass_of_methodNamed Bd.named) (name_of_methodNamed Bd.named Bd.method).1 Bd.returns (BodyLoose.notSynchronized Bd) hZ (Stand.of_body Bd) (by rw [← hh, Bd.state]; rfl)
section Ret
variable {p : Program} {l : Launch} {e : Env} {R : Room} {s : State} {m : MethodId} {args : Array Value} {below : List Frame} {meth : Method} {c : Code} {T : State} {locs : List Loc} {cells slots kc ks : Nat} {QQ : Outcome → State → Prop} {Q : Option Value → Heap → List Loc → Prop}
theorem Goes.fin (X : Stand p l e R s m args below meth c T locs cells slots) (hlk : meth.locks = false) {v : Option Value} (hv : meth.sig.returnType = none → v = none) {g : JFrame}
    (step : ∀ fs : List Frame, (∀ (f : JFrame) (acts : List Action), f.method = m → f.locked = none → f.entered = [] → (doReturn e (T.setTop f) acts v).1 = T.setFrames fs) → Steps p.tables e below (T.setTop g) (T.setFrames fs))
    (hQQ : ∀ o U', EndsQ s Q kc ks o U' → QQ o U') (hq : Q v T.heap locs) (hc : cells ≤ kc) (hs : slots ≤ ks) : Goes p e below QQ (T.setTop g) := by
  obtain ⟨fs, hr, hrun, hended, hW, hsame⟩ := X.leave (v := v) hv hlk
  exact ⟨_, _, step fs hr, hrun, hended, hQQ _ _ ⟨v, locs, rfl, hq, ⟨v, rfl⟩, hW, hsame.mono hc hs⟩⟩
theorem Goes.rI (X : Stand p l e R s m args below meth c T locs cells slots) (hx : p.tables.exec = Jvm.exec) (hret : meth.sig.returnType = some .int) (hlk : meth.locks = false) {pc : Nat} {Ls : Array Slot} {z : Int32} {rest : List Value} (hd : decode c.code pc = .ok (.ireturn, 1))
    (hQQ : ∀ o U', EndsQ s Q kc ks o U' → QQ o U') (hq : Q (some (.int z)) T.heap locs) (hc : cells ≤ kc) (hs : slots ≤ ks) : Goes p e below QQ (T.setTop (mkF m pc Ls (.int z :: rest))) :=
  Goes.fin X hlk (v := some (.int z)) (fun h => by rw [hret] at h; cases h) (fun fs hr => retOut X hx hret rfl (Or.inl ⟨rfl, Or.inl rfl, z, rfl⟩) hd hr) hQQ hq hc hs
theorem Goes.rN (X : Stand p l e R s m args below meth c T locs cells slots) (hx : p.tables.exec = Jvm.exec) {t : FieldType} (hret : meth.sig.returnType = some t) (ht : t = .boolean ∨ t = .byte ∨ t = .char ∨ t = .short) (hlk : meth.locks = false) {pc : Nat} {Ls : Array Slot} {z : Int32} {rest : List Value} (hd : decode c.code pc = .ok (.ireturn, 1))
    (hQQ : ∀ o U', EndsQ s Q kc ks o U' → QQ o U') (hq : Q (some (.int (nar t z))) T.heap locs) (hc : cells ≤ kc) (hs : slots ≤ ks) : Goes p e below QQ (T.setTop (mkF m pc Ls (.int z :: rest))) :=
  Goes.fin X hlk (v := some (.int (nar t z))) (fun h => by rw [hret] at h; cases h) (fun fs hr => retN X hx hret ht hd hr) hQQ hq hc hs
theorem Goes.rJ (X : Stand p l e R s m args below meth c T locs cells slots) (hx : p.tables.exec = Jvm.exec) (hret : meth.sig.returnType = some .long) (hlk : meth.locks = false) {pc : Nat} {Ls : Array Slot} {z : Int64} {rest : List Value} (hd : decode c.code pc = .ok (.lreturn, 1))
    (hQQ : ∀ o U', EndsQ s Q kc ks o U' → QQ o U') (hq : Q (some (.long z)) T.heap locs) (hc : cells ≤ kc) (hs : slots ≤ ks) : Goes p e below QQ (T.setTop (mkF m pc Ls (.long z :: rest))) :=
  Goes.fin X hlk (v := some (.long z)) (fun h => by rw [hret] at h; cases h) (fun fs hr => retOut X hx hret rfl (Or.inr (Or.inl ⟨rfl, rfl, z, rfl⟩)) hd hr) hQQ hq hc hs
theorem Goes.rA (X : Stand p l e R s m args below meth c T locs cells slots) (hx : p.tables.exec = Jvm.exec) {t : FieldType} (hret : meth.sig.returnType = some t) (ht : t.isReference = true) {w : Value} (hw : w.isRef = true) (hlk : meth.locks = false) {pc : Nat} {Ls : Array Slot} {rest : List Value} (hd : decode c.code pc = .ok (.areturn, 1))
    (hQQ : ∀ o U', EndsQ s Q kc ks o U' → QQ o U') (hq : Q (some w) T.heap locs) (hc : cells ≤ kc) (hs : slots ≤ ks) : Goes p e below QQ (T.setTop (mkF m pc Ls (w :: rest))) :=
  Goes.fin X hlk (v := some w) (fun h => by rw [hret] at h; cases h) (fun fs hr => retOut X hx hret (by cases w <;> first | (cases hw; done) | (cases t <;> first | (cases ht; done) | rfl)) (Or.inr (Or.inr (Or.inr (Or.inr ⟨rfl, ht, hw⟩)))) hd hr) hQQ hq hc hs
theorem Goes.rV (X : Stand p l e R s m args below meth c T locs cells slots) (hx : p.tables.exec = Jvm.exec) (hret : meth.sig.returnType = none) (hlk : meth.locks = false) {pc : Nat} {Ls : Array Slot} (hd : decode c.code pc = .ok (.return_, 1))
    (hQQ : ∀ o U', EndsQ s Q kc ks o U' → QQ o U') (hq : Q none T.heap locs) (hc : cells ≤ kc) (hs : slots ≤ ks) : Goes p e below QQ (T.setTop (mkF m pc Ls [])) :=
  Goes.fin X hlk (v := none) (fun _ => rfl) (fun fs hr => X.returnOut hx hret hd hr) hQQ hq hc hs
end Ret
/-- what the law leaves: it returned 1, and nothing old was written -/
def QL (n0 : Nat) (v : Option Value) (h : Heap) (L : List Loc) : Prop := v = some (.int 1) ∧ Fr n0 L
def QI (Z : State) (a1 a2 : Addr) (p3 : Int32) (h0 : Heap) (n0 : Nat) (v : Option Value) (h : Heap) (L : List Loc) : Prop := v = none ∧ Fr n0 L ∧ Keep h0 h [a1] ∧ Fld Z h a1 "com/example/lendgate/lendgate/circulation/Decoder" "bytes" "[B" (.ref a2) ∧ Fld Z h a1 "com/example/lendgate/lendgate/circulation/Decoder" "position" "I" (.int p3)
def flagV (xx : Int32) : Int32 := if xx = (0 : Int32) then 0 else 1
def QF (Z : State) (a1 a2 : Addr) (p1 xx : Int32) (h0 : Heap) (n0 : Nat) (v : Option Value) (h : Heap) (L : List Loc) : Prop := v = some (.int (flagV xx)) ∧ Fr n0 L ∧ Keep h0 h [a1] ∧ Fld Z h a1 "com/example/lendgate/lendgate/circulation/Decoder" "bytes" "[B" (.ref a2) ∧ Fld Z h a1 "com/example/lendgate/lendgate/circulation/Decoder" "position" "I" (.int (p1 + (1 : Int32)))
theorem d1_0 : decode prog_8_method_1_code 0 = .ok (.aload_n 0, 1) := by decide +kernel
theorem d1_1 : decode prog_8_method_1_code 1 = .ok (.invokespecial 1, 3) := by decide +kernel
theorem d1_4 : decode prog_8_method_1_code 4 = .ok (.aload_n 0, 1) := by decide +kernel
theorem d1_5 : decode prog_8_method_1_code 5 = .ok (.aload_n 1, 1) := by decide +kernel
theorem d1_6 : decode prog_8_method_1_code 6 = .ok (.putfield 7, 3) := by decide +kernel
theorem d1_9 : decode prog_8_method_1_code 9 = .ok (.aload_n 0, 1) := by decide +kernel
theorem d1_10 : decode prog_8_method_1_code 10 = .ok (.aload_n 2, 1) := by decide +kernel
theorem d1_11 : decode prog_8_method_1_code 11 = .ok (.putfield 13, 3) := by decide +kernel
theorem d1_14 : decode prog_8_method_1_code 14 = .ok (.aload_n 0, 1) := by decide +kernel
theorem d1_15 : decode prog_8_method_1_code 15 = .ok (.iload_n 3, 1) := by decide +kernel
theorem d1_16 : decode prog_8_method_1_code 16 = .ok (.putfield 17, 3) := by decide +kernel
theorem d1_19 : decode prog_8_method_1_code 19 = .ok (.return_, 1) := by decide +kernel
theorem pn_1 : plainFor (⟨"com/example/lendgate/lendgate/circulation/Decoder", "<init>", "(Lcom/example/lendgate/lendgate/circulation/Symbols;[BI)V"⟩ : MethodName) = true := plainFor_of_name (show plainName "com/example/lendgate/lendgate/circulation/Decoder" = true by first | (simp [plainName, overriddenIn]; done) | decide +kernel)
theorem ef_rm1 (m : MethodId) (x0 : Addr) (x2 : Addr) (x3 : Int32) : entryFrame m #[(.ref x0), .null, (.ref x2), (.int x3)] 4 = mkF m 0 #[rv x0, .val .null, rv x2, iv x3] [] := by first | (simp [entryFrame, mkF, argsToLocals, Value.category]; done) | rfl
set_option maxRecDepth 65536 in
set_option maxHeartbeats 40000000 in
theorem rm1 (l : Launch) (Z : State) (a0 : Array Value) (hw : ∀ d ∈ tables_1, d.before a0 Z = true) (ws : List Jvm.Cond) (a1 a2 : Addr) (p3 : Int32) (h0 : Heap) (n0 : Nat) (Z0 : n0 ≤ h0.size) (E_a1 : Exa Z h0 a1 "com/example/lendgate/lendgate/circulation/Decoder") (F_symbols_a1 : Fld Z h0 a1 "com/example/lendgate/lendgate/circulation/Decoder" "symbols" "Lcom/example/lendgate/lendgate/circulation/Symbols;" .null) (F_bytes_a1 : Fld Z h0 a1 "com/example/lendgate/lendgate/circulation/Decoder" "bytes" "[B" .null) (F_position_a1 : Fld Z h0 a1 "com/example/lendgate/lendgate/circulation/Decoder" "position" "I" (.int 0)) (g_a1 : n0 ≤ a1) :
    MetFree l (⟨"com/example/lendgate/lendgate/circulation/Decoder", "<init>", "(Lcom/example/lendgate/lendgate/circulation/Symbols;[BI)V"⟩ : MethodName) (head1 (Jvm.Cond.code (⟨"com/example/lendgate/lendgate/circulation/Decoder", "<init>", "(Lcom/example/lendgate/lendgate/circulation/Symbols;[BI)V"⟩ : MethodName) prog_8_method_1_code 4 none :: ws) ({ frames := 1, cells := 0, slots := 0, locals := 12 } : Room)) (fun a U => a = #[(.ref a1), .null, (.ref a2), (.int p3)] ∧ Z.Warmed39 U.vm ∧ U.heap = h0) (fun _ _ _ _ _ => True) (fun _ U o U' => ∃ v L, o = .returned v ∧ QI Z a1 a2 p3 h0 n0 v U'.heap L ∧ FrameEnd U o U' L ({ frames := 1, cells := 0, slots := 0, locals := 12 } : Room).cells ({ frames := 1, cells := 0, slots := 0, locals := 12 } : Room).slots) := by
  refine own_enter pn_1 ?_
  intro p e s m below meth c s₁ QQ hQQ hx hby hml hown hnm hret hlk hZ X0 e0
  have hown : s.vm.findClass "com/example/lendgate/lendgate/circulation/Decoder" = some m.cls := hown
  have hml : c.maxLocals = 4 := hml
  have hret : meth.sig.returnType = none := hret
  have N0 := Fr.nil n0
  have K0 := Keep.refl h0 [a1]
  refine Goes.cast (ef_rm1 m a1 a2 p3) ?_
  show Goes p e below QQ (s₁.setTop (mkF m 0 #[rv a1, .val .null, rv a2, iv p3] []))
  refine Goes.on (fun t k => XS.aloadN X0.here hx rfl (hb hby d1_0) rfl rfl k) ?_
  show Goes p e below QQ (s₁.setTop (mkF m 1 #[rv a1, .val .null, rv a2, iv p3] [(.ref a1)]))
  obtain ⟨T1, X1, e1, st1⟩ := initO X0 hx hZ hown (hw _ (List.mem_of_getElem? (i := 7) rfl)) (hw _ (List.mem_of_getElem? (i := 8) rfl)) (hw _ (List.mem_of_getElem? (i := 9) rfl)) e0 (g := (mkF m 1 #[rv a1, .val .null, rv a2, iv p3] [(.ref a1)])) rfl (by rw [hml]; rfl) rfl (hb hby d1_1) (by decide) (W := 0) (by show 2 * 0 + _ ≤ _; exact Nat.le_of_eq rfl) (by decide)
  refine Goes.on (fun t k => st1 t k) ?_
  show Goes p e below QQ (T1.setTop (mkF m 4 #[rv a1, .val .null, rv a2, iv p3] []))
  refine Goes.on (fun t k => XS.aloadN X1.here hx rfl (hb hby d1_4) rfl rfl k) ?_
  show Goes p e below QQ (T1.setTop (mkF m 5 #[rv a1, .val .null, rv a2, iv p3] [(.ref a1)]))
  refine Goes.on (fun t k => XS.aloadN X1.here hx rfl (hb hby d1_5) rfl rfl k) ?_
  show Goes p e below QQ (T1.setTop (mkF m 6 #[rv a1, .val .null, rv a2, iv p3] [.null, (.ref a1)]))
  obtain ⟨T2, h2, X2, e2, W2, st2⟩ := putF X1 hx hZ hown (host := "") (Or.inl (hw _ (List.mem_of_getElem? (i := 10) rfl))) Via.refl e1 F_symbols_a1 E_a1 (Or.inr ⟨(hw _ (List.mem_of_getElem? (i := 11) rfl)), rfl, hnm⟩) (hw _ (List.mem_of_getElem? (i := 2) rfl)) (ty := (.object "com/example/lendgate/lendgate/circulation/Symbols")) (by decide) rfl rfl (g := (mkF m 6 #[rv a1, .val .null, rv a2, iv p3] [.null, (.ref a1)])) rfl rfl (hb hby d1_6)
  have E_3 := E_a1.wr W2
  have F_4 := F_bytes_a1.other W2 (Or.inr (slot_ne (Or.inr (hw _ (List.mem_of_getElem? (i := 13) rfl))) (Or.inr (hw _ (List.mem_of_getElem? (i := 11) rfl))) (by decide) (t := (.array .byte)) (t' := (.object "com/example/lendgate/lendgate/circulation/Symbols")) (by decide) (by decide)))
  have F_5 := F_position_a1.other W2 (Or.inr (slot_ne (Or.inl (hw _ (List.mem_of_getElem? (i := 15) rfl))) (Or.inr (hw _ (List.mem_of_getElem? (i := 11) rfl))) (by decide) (t := .int) (t' := (.object "com/example/lendgate/lendgate/circulation/Symbols")) (by decide) (by decide)))
  have K2 := K0.wr W2 (Or.inl (List.mem_of_getElem? (i := 0) rfl))
  have N2 := Fr.snoc X2 N0 g_a1
  have F_6 := (F_symbols_a1.same W2 : Fld Z h2 a1 "com/example/lendgate/lendgate/circulation/Decoder" "symbols" "Lcom/example/lendgate/lendgate/circulation/Symbols;" .null)
  refine Goes.on (fun t k => st2 t k) ?_
  show Goes p e below QQ (T2.setTop (mkF m 9 #[rv a1, .val .null, rv a2, iv p3] []))
  refine Goes.on (fun t k => XS.aloadN X2.here hx rfl (hb hby d1_9) rfl rfl k) ?_
  show Goes p e below QQ (T2.setTop (mkF m 10 #[rv a1, .val .null, rv a2, iv p3] [(.ref a1)]))
  refine Goes.on (fun t k => XS.aloadN X2.here hx rfl (hb hby d1_10) rfl rfl k) ?_
  show Goes p e below QQ (T2.setTop (mkF m 11 #[rv a1, .val .null, rv a2, iv p3] [(.ref a2), (.ref a1)]))
  obtain ⟨T7, h7, X7, e7, W7, st7⟩ := putF X2 hx hZ hown (host := "") (Or.inl (hw _ (List.mem_of_getElem? (i := 12) rfl))) Via.refl e2 F_4 E_3 (Or.inr ⟨(hw _ (List.mem_of_getElem? (i := 13) rfl)), rfl, hnm⟩) (hw _ (List.mem_of_getElem? (i := 2) rfl)) (ty := (.array .byte)) (by decide) rfl rfl (g := (mkF m 11 #[rv a1, .val .null, rv a2, iv p3] [(.ref a2), (.ref a1)])) rfl rfl (hb hby d1_11)
  have E_8 := E_3.wr W7
  have F_9 := F_6.other W7 (Or.inr (slot_ne (Or.inr (hw _ (List.mem_of_getElem? (i := 11) rfl))) (Or.inr (hw _ (List.mem_of_getElem? (i := 13) rfl))) (by decide) (t := (.object "com/example/lendgate/lendgate/circulation/Symbols")) (t' := (.array .byte)) (by decide) (by decide)))
  have F_10 := F_5.other W7 (Or.inr (slot_ne (Or.inl (hw _ (List.mem_of_getElem? (i := 15) rfl))) (Or.inr (hw _ (List.mem_of_getElem? (i := 13) rfl))) (by decide) (t := .int) (t' := (.array .byte)) (by decide) (by decide)))
  have K7 := K2.wr W7 (Or.inl (List.mem_of_getElem? (i := 0) rfl))
  have N7 := Fr.snoc X7 N2 g_a1
  have F_11 := (F_4.same W7 : Fld Z h7 a1 "com/example/lendgate/lendgate/circulation/Decoder" "bytes" "[B" (.ref a2))
  refine Goes.on (fun t k => st7 t k) ?_
  show Goes p e below QQ (T7.setTop (mkF m 14 #[rv a1, .val .null, rv a2, iv p3] []))
  refine Goes.on (fun t k => XS.aloadN X7.here hx rfl (hb hby d1_14) rfl rfl k) ?_
  show Goes p e below QQ (T7.setTop (mkF m 15 #[rv a1, .val .null, rv a2, iv p3] [(.ref a1)]))
  refine Goes.on (fun t k => XS.iloadN X7.here hx rfl (hb hby d1_15) rfl k) ?_
  show Goes p e below QQ (T7.setTop (mkF m 16 #[rv a1, .val .null, rv a2, iv p3] [(.int p3), (.ref a1)]))
  obtain ⟨T12, h12, X12, e12, W12, st12⟩ := putF X7 hx hZ hown (host := "") (Or.inl (hw _ (List.mem_of_getElem? (i := 14) rfl))) Via.refl e7 F_10 E_8 (Or.inl (hw _ (List.mem_of_getElem? (i := 15) rfl))) (hw _ (List.mem_of_getElem? (i := 2) rfl)) (ty := .int) (by decide) rfl rfl (g := (mkF m 16 #[rv a1, .val .null, rv a2, iv p3] [(.int p3), (.ref a1)])) rfl rfl (hb hby d1_16)
  have E_13 := E_8.wr W12
  have F_14 := F_9.other W12 (Or.inr (slot_ne (Or.inr (hw _ (List.mem_of_getElem? (i := 11) rfl))) (Or.inl (hw _ (List.mem_of_getElem? (i := 15) rfl))) (by decide) (t := (.object "com/example/lendgate/lendgate/circulation/Symbols")) (t' := .int) (by decide) (by decide)))
  have F_15 := F_11.other W12 (Or.inr (slot_ne (Or.inr (hw _ (List.mem_of_getElem? (i := 13) rfl))) (Or.inl (hw _ (List.mem_of_getElem? (i := 15) rfl))) (by decide) (t := (.array .byte)) (t' := .int) (by decide) (by decide)))
  have K12 := K7.wr W12 (Or.inl (List.mem_of_getElem? (i := 0) rfl))
  have N12 := Fr.snoc X12 N7 g_a1
  have F_16 := (F_10.same W12 : Fld Z h12 a1 "com/example/lendgate/lendgate/circulation/Decoder" "position" "I" (.int p3))
  refine Goes.on (fun t k => st12 t k) ?_
  show Goes p e below QQ (T12.setTop (mkF m 19 #[rv a1, .val .null, rv a2, iv p3] []))
  exact Goes.rV X12 hx hret hlk (hb hby d1_19) hQQ (by rw [e12]; exact ⟨rfl, N12, K12, F_15, F_16⟩) (by decide) (by decide)
theorem d3_0 : decode prog_8_method_4_code 0 = .ok (.aload_n 0, 1) := by decide +kernel
theorem d3_1 : decode prog_8_method_4_code 1 = .ok (.getfield 13, 3) := by decide +kernel
theorem d3_4 : decode prog_8_method_4_code 4 = .ok (.aload_n 0, 1) := by decide +kernel
theorem d3_5 : decode prog_8_method_4_code 5 = .ok (.dup, 1) := by decide +kernel
theorem d3_6 : decode prog_8_method_4_code 6 = .ok (.getfield 17, 3) := by decide +kernel
theorem d3_9 : decode prog_8_method_4_code 9 = .ok (.dup_x1, 1) := by decide +kernel
theorem d3_10 : decode prog_8_method_4_code 10 = .ok (.iconst 1, 1) := by decide +kernel
theorem d3_11 : decode prog_8_method_4_code 11 = .ok (.iadd, 1) := by decide +kernel
theorem d3_12 : decode prog_8_method_4_code 12 = .ok (.putfield 17, 3) := by decide +kernel
theorem d3_15 : decode prog_8_method_4_code 15 = .ok (.baload, 1) := by decide +kernel
theorem d3_16 : decode prog_8_method_4_code 16 = .ok (.ifCond .eq 7, 3) := by decide +kernel
theorem d3_19 : decode prog_8_method_4_code 19 = .ok (.iconst 1, 1) := by decide +kernel
theorem d3_20 : decode prog_8_method_4_code 20 = .ok (.goto 4, 3) := by decide +kernel
theorem d3_23 : decode prog_8_method_4_code 23 = .ok (.iconst 0, 1) := by decide +kernel
theorem d3_24 : decode prog_8_method_4_code 24 = .ok (.ireturn, 1) := by decide +kernel
theorem pn_3 : plainFor (⟨"com/example/lendgate/lendgate/circulation/Decoder", "flag", "()Z"⟩ : MethodName) = true := plainFor_of_name (show plainName "com/example/lendgate/lendgate/circulation/Decoder" = true by first | (simp [plainName, overriddenIn]; done) | decide +kernel)
theorem ef_rm3 (m : MethodId) (x0 : Addr) : entryFrame m #[(.ref x0)] 1 = mkF m 0 #[rv x0] [] := by first | (simp [entryFrame, mkF, argsToLocals, Value.category]; done) | rfl
set_option maxRecDepth 65536 in
set_option maxHeartbeats 40000000 in
theorem rm3 (l : Launch) (Z : State) (a0 : Array Value) (hw : ∀ d ∈ tables_1, d.before a0 Z = true) (ws : List Jvm.Cond) (a1 a2 : Addr) (p1 xx : Int32) (kk : ClassId) (zz : Int32) (vs : List Value) (h0 : Heap) (n0 : Nat) (Z0 : n0 ≤ h0.size) (E_a1 : Exa Z h0 a1 "com/example/lendgate/lendgate/circulation/Decoder") (F_bytes_a1 : Fld Z h0 a1 "com/example/lendgate/lendgate/circulation/Decoder" "bytes" "[B" (.ref a2)) (F_position_a1 : Fld Z h0 a1 "com/example/lendgate/lendgate/circulation/Decoder" "position" "I" (.int p1)) (V_a2 : Arv Z h0 a2 kk .byte zz vs (.int 0)) (g_a1 : n0 ≤ a1) (ne_a2_a1 : a2 ≠ a1) (I1 : ¬ p1 < 0 ∧ p1 < zz) (G1 : vs.getD p1.toNatClampNeg (.int (0 : Int32)) = .int xx) :
    MetFree l (⟨"com/example/lendgate/lendgate/circulation/Decoder", "flag", "()Z"⟩ : MethodName) (head1 (Jvm.Cond.code (⟨"com/example/lendgate/lendgate/circulation/Decoder", "flag", "()Z"⟩ : MethodName) prog_8_method_4_code 1 (some .boolean) :: ws) ({ frames := 0, cells := 0, slots := 0, locals := 0 } : Room)) (fun a U => a = #[(.ref a1)] ∧ Z.Warmed39 U.vm ∧ U.heap = h0) (fun _ _ _ _ _ => True) (fun _ U o U' => ∃ v L, o = .returned v ∧ QF Z a1 a2 p1 xx h0 n0 v U'.heap L ∧ FrameEnd U o U' L ({ frames := 0, cells := 0, slots := 0, locals := 0 } : Room).cells ({ frames := 0, cells := 0, slots := 0, locals := 0 } : Room).slots) := by
  refine own_enter pn_3 ?_
  intro p e s m below meth c s₁ QQ hQQ hx hby hml hown hnm hret hlk hZ X0 e0
  have hown : s.vm.findClass "com/example/lendgate/lendgate/circulation/Decoder" = some m.cls := hown
  have hml : c.maxLocals = 1 := hml
  have hret : meth.sig.returnType = some .boolean := hret
  have N0 := Fr.nil n0
  have K0 := Keep.refl h0 [a1]
  refine Goes.cast (ef_rm3 m a1) ?_
  show Goes p e below QQ (s₁.setTop (mkF m 0 #[rv a1] []))
  refine Goes.on (fun t k => XS.aloadN X0.here hx rfl (hb hby d3_0) rfl rfl k) ?_
  show Goes p e below QQ (s₁.setTop (mkF m 1 #[rv a1] [(.ref a1)]))
  obtain ⟨T1, X1, e1, st1⟩ := getF X0 hx hZ hown (host := "") (Or.inl (hw _ (List.mem_of_getElem? (i := 12) rfl))) Via.refl e0 F_bytes_a1 (g := (mkF m 1 #[rv a1] [(.ref a1)])) rfl rfl (hb hby d3_1)
  refine Goes.on (fun t k => st1 t k) ?_
  show Goes p e below QQ (T1.setTop (mkF m 4 #[rv a1] [(.ref a2)]))
  refine Goes.on (fun t k => XS.aloadN X1.here hx rfl (hb hby d3_4) rfl rfl k) ?_
  show Goes p e below QQ (T1.setTop (mkF m 5 #[rv a1] [(.ref a1), (.ref a2)]))
  refine Goes.on (fun t k => XS.dup X1.here hx rfl (hb hby d3_5) rfl rfl k) ?_
  show Goes p e below QQ (T1.setTop (mkF m 6 #[rv a1] [(.ref a1), (.ref a1), (.ref a2)]))
  obtain ⟨T2, X2, e2, st2⟩ := getF X1 hx hZ hown (host := "") (Or.inl (hw _ (List.mem_of_getElem? (i := 14) rfl))) Via.refl e1 F_position_a1 (g := (mkF m 6 #[rv a1] [(.ref a1), (.ref a1), (.ref a2)])) rfl rfl (hb hby d3_6)
  refine Goes.on (fun t k => st2 t k) ?_
  show Goes p e below QQ (T2.setTop (mkF m 9 #[rv a1] [(.int p1), (.ref a1), (.ref a2)]))
  refine Goes.on (fun t k => XS.dupX1 X2.here hx rfl (hb hby d3_9) rfl rfl rfl k) ?_
  show Goes p e below QQ (T2.setTop (mkF m 10 #[rv a1] [(.int p1), (.ref a1), (.int p1), (.ref a2)]))
  refine Goes.on (fun t k => XS.iconst X2.here hx rfl (hb hby d3_10) k) ?_
  show Goes p e below QQ (T2.setTop (mkF m 11 #[rv a1] [(.int 1), (.int p1), (.ref a1), (.int p1), (.ref a2)]))
  refine Goes.on (fun t k => XS.iadd X2.here hx rfl (hb hby d3_11) rfl k) ?_
  show Goes p e below QQ (T2.setTop (mkF m 12 #[rv a1] [(.int (p1 + (1 : Int32))), (.ref a1), (.int p1), (.ref a2)]))
  obtain ⟨T3, h3, X3, e3, W3, st3⟩ := putF X2 hx hZ hown (host := "") (Or.inl (hw _ (List.mem_of_getElem? (i := 14) rfl))) Via.refl e2 F_position_a1 E_a1 (Or.inl (hw _ (List.mem_of_getElem? (i := 15) rfl))) (hw _ (List.mem_of_getElem? (i := 2) rfl)) (ty := .int) (by decide) rfl rfl (g := (mkF m 12 #[rv a1] [(.int (p1 + (1 : Int32))), (.ref a1), (.int p1), (.ref a2)])) rfl rfl (hb hby d3_12)
  have E_4 := E_a1.wr W3
  have F_5 := F_bytes_a1.other W3 (Or.inr (slot_ne (Or.inr (hw _ (List.mem_of_getElem? (i := 13) rfl))) (Or.inl (hw _ (List.mem_of_getElem? (i := 15) rfl))) (by decide) (t := (.array .byte)) (t' := .int) (by decide) (by decide)))
  have V_6 := V_a2.other W3 ne_a2_a1
  have K3 := K0.wr W3 (Or.inl (List.mem_of_getElem? (i := 0) rfl))
  have N3 := Fr.snoc X3 N0 g_a1
  have F_7 := (F_position_a1.same W3 : Fld Z h3 a1 "com/example/lendgate/lendgate/circulation/Decoder" "position" "I" (.int (p1 + (1 : Int32))))
  refine Goes.on (fun t k => st3 t k) ?_
  show Goes p e below QQ (T3.setTop (mkF m 15 #[rv a1] [(.int p1), (.ref a2)]))
  obtain ⟨cl8, Ar8, q8, S8, N8z, H8, G8⟩ := V_6
  have hin8 := inb_of (j := p1) S8 I1
  have hat8 := Has.at (v := (.int xx)) H8 hin8 G1
  refine Goes.on (fun t k => X3.baloadBytes hx (j := p1) (v := (.int xx)) (by rw [e3]; exact Ar8.1) (State.isArrayOf_alike hZ.alike Ar8.2.1) Ar8.2.2 hin8 hat8 (g := (mkF m 15 #[rv a1] [(.int p1), (.ref a2)])) rfl rfl (hb hby d3_15) t k) ?_
  show Goes p e below QQ (T3.setTop (mkF m 16 #[rv a1] [(.int xx)]))
  by_cases hb9 : xx = (0 : Int32)
  · refine Goes.on (fun t k => XS.ifYes X3.here hx rfl (pc0 := 16) (pc' := 23) rfl (hb hby d3_16) rfl ((if0 _ _).trans (teq hb9).1) (by decide) (by decide) k) ?_
    show Goes p e below QQ (T3.setTop (mkF m 23 #[rv a1] []))
    refine Goes.on (fun t k => XS.iconst X3.here hx rfl (hb hby d3_23) k) ?_
    show Goes p e below QQ (T3.setTop (mkF m 24 #[rv a1] [(.int 0)]))
    exact Goes.rN X3 hx (t := .boolean) hret (by simp) hlk (hb hby d3_24) hQQ (by rw [e3]; exact ⟨congrArg (fun z => some (Value.int z)) (((if_pos hb9).trans rfl) : flagV xx = (0 : Int32)).symm, N3, K3, F_5, F_7⟩) (by decide) (by decide)
  · refine Goes.on (fun t k => XS.ifNo X3.here hx rfl (hb hby d3_16) rfl ((if0 _ _).trans (feq hb9).1) k) ?_
    show Goes p e below QQ (T3.setTop (mkF m 19 #[rv a1] []))
    refine Goes.on (fun t k => XS.iconst X3.here hx rfl (hb hby d3_19) k) ?_
    show Goes p e below QQ (T3.setTop (mkF m 20 #[rv a1] [(.int 1)]))
    refine Goes.on (fun t k => XS.goto X3.here hx rfl (pc0 := 20) (pc' := 24) rfl (hb hby d3_20) (by decide) (by decide) k) ?_
    show Goes p e below QQ (T3.setTop (mkF m 24 #[rv a1] [(.int 1)]))
    exact Goes.rN X3 hx (t := .boolean) hret (by simp) hlk (hb hby d3_24) hQQ (by rw [e3]; exact ⟨congrArg (fun z => some (Value.int z)) (((if_neg hb9).trans rfl) : flagV xx = (1 : Int32)).symm, N3, K3, F_5, F_7⟩) (by decide) (by decide)
theorem d4_0 : decode prog_8_method_8_code 0 = .ok (.aload_n 0, 1) := by decide +kernel
theorem d4_1 : decode prog_8_method_8_code 1 = .ok (.getfield 17, 3) := by decide +kernel
theorem d4_4 : decode prog_8_method_8_code 4 = .ok (.ireturn, 1) := by decide +kernel
theorem pn_4 : plainFor (⟨"com/example/lendgate/lendgate/circulation/Decoder", "position", "()I"⟩ : MethodName) = true := plainFor_of_name (show plainName "com/example/lendgate/lendgate/circulation/Decoder" = true by first | (simp [plainName, overriddenIn]; done) | decide +kernel)
theorem ef_rm4 (m : MethodId) (x0 : Addr) : entryFrame m #[(.ref x0)] 1 = mkF m 0 #[rv x0] [] := by first | (simp [entryFrame, mkF, argsToLocals, Value.category]; done) | rfl
set_option maxRecDepth 65536 in
set_option maxHeartbeats 40000000 in
theorem rm4 (l : Launch) (Z : State) (a0 : Array Value) (hw : ∀ d ∈ tables_1, d.before a0 Z = true) (ws : List Jvm.Cond) (a1 : Addr) (p1 : Int32) (h0 : Heap) (n0 : Nat) (Z0 : n0 ≤ h0.size) (F_position_a1 : Fld Z h0 a1 "com/example/lendgate/lendgate/circulation/Decoder" "position" "I" (.int p1)) :
    MetFree l (⟨"com/example/lendgate/lendgate/circulation/Decoder", "position", "()I"⟩ : MethodName) (head1 (Jvm.Cond.code (⟨"com/example/lendgate/lendgate/circulation/Decoder", "position", "()I"⟩ : MethodName) prog_8_method_8_code 1 (some .int) :: ws) ({ frames := 0, cells := 0, slots := 0, locals := 0 } : Room)) (fun a U => a = #[(.ref a1)] ∧ Z.Warmed39 U.vm ∧ U.heap = h0) (fun _ _ _ _ _ => True) (fun _ U o U' => ∃ v L, o = .returned v ∧ QP (.int p1) h0 n0 v U'.heap L ∧ FrameEnd U o U' L ({ frames := 0, cells := 0, slots := 0, locals := 0 } : Room).cells ({ frames := 0, cells := 0, slots := 0, locals := 0 } : Room).slots) := by
  refine own_enter pn_4 ?_
  intro p e s m below meth c s₁ QQ hQQ hx hby hml hown hnm hret hlk hZ X0 e0
  have hown : s.vm.findClass "com/example/lendgate/lendgate/circulation/Decoder" = some m.cls := hown
  have hml : c.maxLocals = 1 := hml
  have hret : meth.sig.returnType = some .int := hret
  have N0 := Fr.nil n0
  have K0 := Keep.refl h0 []
  refine Goes.cast (ef_rm4 m a1) ?_
  show Goes p e below QQ (s₁.setTop (mkF m 0 #[rv a1] []))
  refine Goes.on (fun t k => XS.aloadN X0.here hx rfl (hb hby d4_0) rfl rfl k) ?_
  show Goes p e below QQ (s₁.setTop (mkF m 1 #[rv a1] [(.ref a1)]))
  obtain ⟨T1, X1, e1, st1⟩ := getF X0 hx hZ hown (host := "") (Or.inl (hw _ (List.mem_of_getElem? (i := 14) rfl))) Via.refl e0 F_position_a1 (g := (mkF m 1 #[rv a1] [(.ref a1)])) rfl rfl (hb hby d4_1)
  refine Goes.on (fun t k => st1 t k) ?_
  show Goes p e below QQ (T1.setTop (mkF m 4 #[rv a1] [(.int p1)]))
  exact Goes.rI X1 hx hret hlk (hb hby d4_4) hQQ ⟨rfl, N0, e1⟩ (by decide) (by decide)
theorem pn_0 : plainFor x = true := plainFor_of_name (show plainName "com/example/lendgate/lendgate/circulation/DecoderFlagPinLaw" = true by first | (simp [plainName, overriddenIn]; done) | decide +kernel)
theorem ef_rm0 (m : MethodId) (x0 : Int32) (x1 : Int32) (x2 : Int32) (x3 : Int32) : entryFrame m #[(.int x0), (.int x1), (.int x2), (.int x3)] maxLocals = mkF m 0 #[iv x0, iv x1, iv x2, iv x3, .unset, .unset, .unset, .unset, .unset, .unset, .unset, .unset, .unset] [] := by first | (simp [entryFrame, mkF, argsToLocals, Value.category, maxLocals]; done) | rfl
theorem pd_0 : parseMethodDescriptor "(Lcom/example/lendgate/lendgate/circulation/Symbols;[BI)V" = some ⟨[(.object "com/example/lendgate/lendgate/circulation/Symbols"), (.array .byte), .int], none⟩ := by decide +kernel
theorem pd_1 : parseMethodDescriptor "()Z" = some ⟨[], some .boolean⟩ := by decide +kernel
theorem pd_2 : parseMethodDescriptor "()I" = some ⟨[], some .int⟩ := by decide +kernel
theorem own_bit (x1 : Int32) (h : ¬ (x1 &&& (1 : Int32)) = (0 : Int32)) : (x1 &&& (1 : Int32)) = (1 : Int32) := by
  have q := c_mask x1 1 1 (by decide) (by decide)
  have e0 : (0 : Int32).toInt = 0 := by decide
  have e1 : (1 : Int32).toInt = 1 := by decide
  apply Int32.toInt_inj.mp
  have h' : ¬ (x1 &&& (1 : Int32)).toInt = 0 := fun z => h (Int32.toInt_inj.mp (z.trans e0.symm))
  omega
def lawF (p1 p2 p3 p4 : Int32) : Int32 := (if (p4 &&& (1 : Int32)) = (0 : Int32) then (if (p1 &&& (255 : Int32)) = (0 : Int32) then (if (flagV p1.toInt8.toInt32.toInt8.toInt32) = (0 : Int32) then (if (p2 &&& (255 : Int32)) = (0 : Int32) then (if (flagV p2.toInt8.toInt32.toInt8.toInt32) = (0 : Int32) then (1 : Int32) else (0 : Int32)) else (if (flagV p2.toInt8.toInt32.toInt8.toInt32) = (1 : Int32) then (1 : Int32) else (0 : Int32))) else (0 : Int32)) else (if (flagV p1.toInt8.toInt32.toInt8.toInt32) = (1 : Int32) then (if (p2 &&& (255 : Int32)) = (0 : Int32) then (if (flagV p2.toInt8.toInt32.toInt8.toInt32) = (0 : Int32) then (1 : Int32) else (0 : Int32)) else (if (flagV p2.toInt8.toInt32.toInt8.toInt32) = (1 : Int32) then (1 : Int32) else (0 : Int32))) else (0 : Int32))) else (if (p2 &&& (255 : Int32)) = (0 : Int32) then (if (flagV p2.toInt8.toInt32.toInt8.toInt32) = (0 : Int32) then (if (p3 &&& (255 : Int32)) = (0 : Int32) then (if (flagV p3.toInt8.toInt32.toInt8.toInt32) = (0 : Int32) then (1 : Int32) else (0 : Int32)) else (if (flagV p3.toInt8.toInt32.toInt8.toInt32) = (1 : Int32) then (1 : Int32) else (0 : Int32))) else (0 : Int32)) else (if (flagV p2.toInt8.toInt32.toInt8.toInt32) = (1 : Int32) then (if (p3 &&& (255 : Int32)) = (0 : Int32) then (if (flagV p3.toInt8.toInt32.toInt8.toInt32) = (0 : Int32) then (1 : Int32) else (0 : Int32)) else (if (flagV p3.toInt8.toInt32.toInt8.toInt32) = (1 : Int32) then (1 : Int32) else (0 : Int32))) else (0 : Int32))))
theorem own_byte0 (x1 : Int32) : (x1.toInt8.toInt32.toInt8.toInt32 = (0 : Int32)) ↔ ((x1 &&& (255 : Int32)) = (0 : Int32)) := by
  have q := c_mask x1 255 8 (by decide) (by decide)
  have e0 : (0 : Int32).toInt = 0 := by decide
  have a1 := c_i2b x1
  have a2 := c_i2b x1.toInt8.toInt32
  rw [← Int32.toInt_inj, ← Int32.toInt_inj, q, e0]
  omega
theorem lawT (p1 p2 p3 p4 : Int32) : lawF p1 p2 p3 p4 = 1 := by
  unfold lawF flagV
  simp only [own_byte0]
  repeat' split
  all_goals first | rfl | contradiction | simp_all
set_option maxRecDepth 65536 in
set_option maxHeartbeats 40000000 in
theorem rm0 (l : Launch) (Z : State) (a0 : Array Value) (hw : ∀ d ∈ tables_1, d.before a0 Z = true) (ws : List Jvm.Cond) (p1 p2 p3 p4 : Int32) (h0 : Heap) (n0 : Nat) (Z0 : n0 ≤ h0.size)  :
    MetFree l x (head1 (Jvm.Cond.code x code maxLocals ret :: ws) room_1) (fun a U => a = #[(.int p1), (.int p2), (.int p3), (.int p4)] ∧ Z.Warmed39 U.vm ∧ U.heap = h0) (fun _ _ _ _ _ => True) (fun _ U o U' => ∃ v L, o = .returned v ∧ QL n0 v U'.heap L ∧ FrameEnd U o U' L 16 128) := by
  refine own_enter pn_0 ?_
  intro p e s m below meth c s₁ QQ hQQ hx hby hml hown hnm hret hlk hZ X0 e0
  have hown : s.vm.findClass "com/example/lendgate/lendgate/circulation/DecoderFlagPinLaw" = some m.cls := hown
  have hml : c.maxLocals = 13 := hml
  have hret : meth.sig.returnType = some .boolean := hret
  have N0 := Fr.nil n0
  have K0 := Keep.refl h0 []
  refine Goes.cast (ef_rm0 m p1 p2 p3 p4) ?_
  show Goes p e below QQ (s₁.setTop (mkF m 0 #[iv p1, iv p2, iv p3, iv p4, .unset, .unset, .unset, .unset, .unset, .unset, .unset, .unset, .unset] []))
  refine Goes.on (fun t k => XS.iconst X0.here hx rfl (hb hby at_0) k) ?_
  show Goes p e below QQ (s₁.setTop (mkF m 1 #[iv p1, iv p2, iv p3, iv p4, .unset, .unset, .unset, .unset, .unset, .unset, .unset, .unset, .unset] [(.int 3)]))
  obtain ⟨T1, h1, k1, X1, e1, E1, A1, st1⟩ := newP X0 hx hZ (hw _ (List.mem_of_getElem? (i := 0) rfl)) e0 (g := (mkF m 1 #[iv p1, iv p2, iv p3, iv p4, .unset, .unset, .unset, .unset, .unset, .unset, .unset, .unset, .unset] [(.int 3)])) rfl (hb hby at_1) rfl (by decide) (cap := 3) (by decide) (by decide) (by decide) (by decide)
  obtain ⟨b1, g1⟩ : ∃ z, z = h0.size := ⟨_, rfl⟩
  rw [← g1] at A1 st1
  have sz_b1 : h0.size ≤ b1 := Nat.le_trans K0.1 (Nat.le_of_eq g1.symm)
  have g_b1 : n0 ≤ b1 := Nat.le_trans Z0 sz_b1
  have K1 := K0.ext E1
  have V_2 : Arv Z h1 b1 k1 .byte (3 : Int32) [(.int 0), (.int 0), (.int 0)] (.int 0) := (Arv.new A1 (by decide)).pad (pad_rep [] (.int 0) 3)
  refine Goes.on (fun t k => st1 t k) ?_
  show Goes p e below QQ (T1.setTop (mkF m 3 #[iv p1, iv p2, iv p3, iv p4, .unset, .unset, .unset, .unset, .unset, .unset, .unset, .unset, .unset] [(.ref b1)]))
  refine Goes.on (fun t k => XS.dup X1.here hx rfl (hb hby at_3) rfl rfl k) ?_
  show Goes p e below QQ (T1.setTop (mkF m 4 #[iv p1, iv p2, iv p3, iv p4, .unset, .unset, .unset, .unset, .unset, .unset, .unset, .unset, .unset] [(.ref b1), (.ref b1)]))
  refine Goes.on (fun t k => XS.iconst X1.here hx rfl (hb hby at_4) k) ?_
  show Goes p e below QQ (T1.setTop (mkF m 5 #[iv p1, iv p2, iv p3, iv p4, .unset, .unset, .unset, .unset, .unset, .unset, .unset, .unset, .unset] [(.int 0), (.ref b1), (.ref b1)]))
  refine Goes.on (fun t k => XS.iloadN X1.here hx rfl (hb hby at_5) rfl k) ?_
  show Goes p e below QQ (T1.setTop (mkF m 6 #[iv p1, iv p2, iv p3, iv p4, .unset, .unset, .unset, .unset, .unset, .unset, .unset, .unset, .unset] [(.int p1), (.int 0), (.ref b1), (.ref b1)]))
  refine Goes.on (fun t k => XS.i2b X1.here hx rfl (hb hby at_6) rfl k) ?_
  show Goes p e below QQ (T1.setTop (mkF m 7 #[iv p1, iv p2, iv p3, iv p4, .unset, .unset, .unset, .unset, .unset, .unset, .unset, .unset, .unset] [(.int p1.toInt8.toInt32), (.int 0), (.ref b1), (.ref b1)]))
  obtain ⟨cl3, Ar3, q3, S3, N3z, H3, G3⟩ := V_2
  have hin3 := inb_of (j := (0 : Int32)) S3 ⟨by decide, by decide⟩
  obtain ⟨T4, h4, X4, e4, W4, st4⟩ := stB X1 hx hZ e1 Ar3 (j := (0 : Int32)) hin3 (g := (mkF m 7 #[iv p1, iv p2, iv p3, iv p4, .unset, .unset, .unset, .unset, .unset, .unset, .unset, .unset, .unset] [(.int p1.toInt8.toInt32), (.int 0), (.ref b1), (.ref b1)])) rfl rfl (hb hby at_7)
  have K4 := K1.wr W4 (Or.inr sz_b1)
  have N4 := Fr.snoc X4 N0 g_b1
  have V_5 := (Arv.set Ar3 q3 S3 N3z H3 G3 (fits_nar_byte _) W4 0 rfl (Nat.le_of_ble_eq_true rfl) : Arv Z h4 b1 k1 .byte (3 : Int32) [(.int p1.toInt8.toInt32.toInt8.toInt32), (.int 0), (.int 0)] (.int 0))
  refine Goes.on (fun t k => st4 t k) ?_
  show Goes p e below QQ (T4.setTop (mkF m 8 #[iv p1, iv p2, iv p3, iv p4, .unset, .unset, .unset, .unset, .unset, .unset, .unset, .unset, .unset] [(.ref b1)]))
  refine Goes.on (fun t k => XS.dup X4.here hx rfl (hb hby at_8) rfl rfl k) ?_
  show Goes p e below QQ (T4.setTop (mkF m 9 #[iv p1, iv p2, iv p3, iv p4, .unset, .unset, .unset, .unset, .unset, .unset, .unset, .unset, .unset] [(.ref b1), (.ref b1)]))
  refine Goes.on (fun t k => XS.iconst X4.here hx rfl (hb hby at_9) k) ?_
  show Goes p e below QQ (T4.setTop (mkF m 10 #[iv p1, iv p2, iv p3, iv p4, .unset, .unset, .unset, .unset, .unset, .unset, .unset, .unset, .unset] [(.int 1), (.ref b1), (.ref b1)]))
  refine Goes.on (fun t k => XS.iloadN X4.here hx rfl (hb hby at_10) rfl k) ?_
  show Goes p e below QQ (T4.setTop (mkF m 11 #[iv p1, iv p2, iv p3, iv p4, .unset, .unset, .unset, .unset, .unset, .unset, .unset, .unset, .unset] [(.int p2), (.int 1), (.ref b1), (.ref b1)]))
  refine Goes.on (fun t k => XS.i2b X4.here hx rfl (hb hby at_11) rfl k) ?_
  show Goes p e below QQ (T4.setTop (mkF m 12 #[iv p1, iv p2, iv p3, iv p4, .unset, .unset, .unset, .unset, .unset, .unset, .unset, .unset, .unset] [(.int p2.toInt8.toInt32), (.int 1), (.ref b1), (.ref b1)]))
  obtain ⟨cl6, Ar6, q6, S6, N6z, H6, G6⟩ := V_5
  have hin6 := inb_of (j := (1 : Int32)) S6 ⟨by decide, by decide⟩
  obtain ⟨T7, h7, X7, e7, W7, st7⟩ := stB X4 hx hZ e4 Ar6 (j := (1 : Int32)) hin6 (g := (mkF m 12 #[iv p1, iv p2, iv p3, iv p4, .unset, .unset, .unset, .unset, .unset, .unset, .unset, .unset, .unset] [(.int p2.toInt8.toInt32), (.int 1), (.ref b1), (.ref b1)])) rfl rfl (hb hby at_12)
  have K7 := K4.wr W7 (Or.inr sz_b1)
  have N7 := Fr.snoc X7 N4 g_b1
  have V_8 := (Arv.set Ar6 q6 S6 N6z H6 G6 (fits_nar_byte _) W7 1 rfl (Nat.le_of_ble_eq_true rfl) : Arv Z h7 b1 k1 .byte (3 : Int32) [(.int p1.toInt8.toInt32.toInt8.toInt32), (.int p2.toInt8.toInt32.toInt8.toInt32), (.int 0)] (.int 0))
  refine Goes.on (fun t k => st7 t k) ?_
  show Goes p e below QQ (T7.setTop (mkF m 13 #[iv p1, iv p2, iv p3, iv p4, .unset, .unset, .unset, .unset, .unset, .unset, .unset, .unset, .unset] [(.ref b1)]))
  refine Goes.on (fun t k => XS.dup X7.here hx rfl (hb hby at_13) rfl rfl k) ?_
  show Goes p e below QQ (T7.setTop (mkF m 14 #[iv p1, iv p2, iv p3, iv p4, .unset, .unset, .unset, .unset, .unset, .unset, .unset, .unset, .unset] [(.ref b1), (.ref b1)]))
  refine Goes.on (fun t k => XS.iconst X7.here hx rfl (hb hby at_14) k) ?_
  show Goes p e below QQ (T7.setTop (mkF m 15 #[iv p1, iv p2, iv p3, iv p4, .unset, .unset, .unset, .unset, .unset, .unset, .unset, .unset, .unset] [(.int 2), (.ref b1), (.ref b1)]))
  refine Goes.on (fun t k => XS.iloadN X7.here hx rfl (hb hby at_15) rfl k) ?_
  show Goes p e below QQ (T7.setTop (mkF m 16 #[iv p1, iv p2, iv p3, iv p4, .unset, .unset, .unset, .unset, .unset, .unset, .unset, .unset, .unset] [(.int p3), (.int 2), (.ref b1), (.ref b1)]))
  refine Goes.on (fun t k => XS.i2b X7.here hx rfl (hb hby at_16) rfl k) ?_
  show Goes p e below QQ (T7.setTop (mkF m 17 #[iv p1, iv p2, iv p3, iv p4, .unset, .unset, .unset, .unset, .unset, .unset, .unset, .unset, .unset] [(.int p3.toInt8.toInt32), (.int 2), (.ref b1), (.ref b1)]))
  obtain ⟨cl9, Ar9, q9, S9, N9z, H9, G9⟩ := V_8
  have hin9 := inb_of (j := (2 : Int32)) S9 ⟨by decide, by decide⟩
  obtain ⟨T10, h10, X10, e10, W10, st10⟩ := stB X7 hx hZ e7 Ar9 (j := (2 : Int32)) hin9 (g := (mkF m 17 #[iv p1, iv p2, iv p3, iv p4, .unset, .unset, .unset, .unset, .unset, .unset, .unset, .unset, .unset] [(.int p3.toInt8.toInt32), (.int 2), (.ref b1), (.ref b1)])) rfl rfl (hb hby at_17)
  have K10 := K7.wr W10 (Or.inr sz_b1)
  have N10 := Fr.snoc X10 N7 g_b1
  have V_11 := (Arv.set Ar9 q9 S9 N9z H9 G9 (fits_nar_byte _) W10 2 rfl (Nat.le_of_ble_eq_true rfl) : Arv Z h10 b1 k1 .byte (3 : Int32) [(.int p1.toInt8.toInt32.toInt8.toInt32), (.int p2.toInt8.toInt32.toInt8.toInt32), (.int p3.toInt8.toInt32.toInt8.toInt32)] (.int 0))
  refine Goes.on (fun t k => st10 t k) ?_
  show Goes p e below QQ (T10.setTop (mkF m 18 #[iv p1, iv p2, iv p3, iv p4, .unset, .unset, .unset, .unset, .unset, .unset, .unset, .unset, .unset] [(.ref b1)]))
  refine Goes.on (fun t k => XS.astore X10.here hx rfl (hb hby at_18) rfl rfl (l' := #[iv p1, iv p2, iv p3, iv p4, rv b1, .unset, .unset, .unset, .unset, .unset, .unset, .unset, .unset]) rfl k) ?_
  show Goes p e below QQ (T10.setTop (mkF m 20 #[iv p1, iv p2, iv p3, iv p4, rv b1, .unset, .unset, .unset, .unset, .unset, .unset, .unset, .unset] []))
  refine Goes.on (fun t k => XS.iloadN X10.here hx rfl (hb hby at_20) rfl k) ?_
  show Goes p e below QQ (T10.setTop (mkF m 21 #[iv p1, iv p2, iv p3, iv p4, rv b1, .unset, .unset, .unset, .unset, .unset, .unset, .unset, .unset] [(.int p4)]))
  refine Goes.on (fun t k => XS.iconst X10.here hx rfl (hb hby at_21) k) ?_
  show Goes p e below QQ (T10.setTop (mkF m 22 #[iv p1, iv p2, iv p3, iv p4, rv b1, .unset, .unset, .unset, .unset, .unset, .unset, .unset, .unset] [(.int 1), (.int p4)]))
  refine Goes.on (fun t k => XS.iand X10.here hx rfl (hb hby at_22) rfl k) ?_
  show Goes p e below QQ (T10.setTop (mkF m 23 #[iv p1, iv p2, iv p3, iv p4, rv b1, .unset, .unset, .unset, .unset, .unset, .unset, .unset, .unset] [(.int (p4 &&& (1 : Int32)))]))
  refine Goes.on (fun t k => XS.istore X10.here hx rfl (hb hby at_23) rfl (l' := #[iv p1, iv p2, iv p3, iv p4, rv b1, iv (p4 &&& (1 : Int32)), .unset, .unset, .unset, .unset, .unset, .unset, .unset]) rfl k) ?_
  show Goes p e below QQ (T10.setTop (mkF m 25 #[iv p1, iv p2, iv p3, iv p4, rv b1, iv (p4 &&& (1 : Int32)), .unset, .unset, .unset, .unset, .unset, .unset, .unset] []))
  by_cases hst : (p4 &&& (1 : Int32)) = (0 : Int32)
  · rw [hst]
    show Goes p e below QQ (T10.setTop (mkF m 25 #[iv p1, iv p2, iv p3, iv p4, rv b1, iv 0, .unset, .unset, .unset, .unset, .unset, .unset, .unset] []))
    refine Goes.on (fun t k => XS.iload X10.here hx rfl (hb hby at_25) rfl k) ?_
    show Goes p e below QQ (T10.setTop (mkF m 27 #[iv p1, iv p2, iv p3, iv p4, rv b1, iv 0, .unset, .unset, .unset, .unset, .unset, .unset, .unset] [(.int 0)]))
    refine Goes.on (fun t k => XS.ifNo X10.here hx rfl (hb hby at_27) rfl ((if0 _ _).trans (teq (by decide)).2) k) ?_
    show Goes p e below QQ (T10.setTop (mkF m 30 #[iv p1, iv p2, iv p3, iv p4, rv b1, iv 0, .unset, .unset, .unset, .unset, .unset, .unset, .unset] []))
    refine Goes.on (fun t k => XS.iloadN X10.here hx rfl (hb hby at_30) rfl k) ?_
    show Goes p e below QQ (T10.setTop (mkF m 31 #[iv p1, iv p2, iv p3, iv p4, rv b1, iv 0, .unset, .unset, .unset, .unset, .unset, .unset, .unset] [(.int p1)]))
    refine Goes.on (fun t k => XS.goto X10.here hx rfl (pc0 := 31) (pc' := 35) rfl (hb hby at_31) (by decide) (by decide) k) ?_
    show Goes p e below QQ (T10.setTop (mkF m 35 #[iv p1, iv p2, iv p3, iv p4, rv b1, iv 0, .unset, .unset, .unset, .unset, .unset, .unset, .unset] [(.int p1)]))
    refine Goes.on (fun t k => XS.istore X10.here hx rfl (hb hby at_35) rfl (l' := #[iv p1, iv p2, iv p3, iv p4, rv b1, iv 0, iv p1, .unset, .unset, .unset, .unset, .unset, .unset]) rfl k) ?_
    show Goes p e below QQ (T10.setTop (mkF m 37 #[iv p1, iv p2, iv p3, iv p4, rv b1, iv 0, iv p1, .unset, .unset, .unset, .unset, .unset, .unset] []))
    refine Goes.on (fun t k => XS.iload X10.here hx rfl (hb hby at_37) rfl k) ?_
    show Goes p e below QQ (T10.setTop (mkF m 39 #[iv p1, iv p2, iv p3, iv p4, rv b1, iv 0, iv p1, .unset, .unset, .unset, .unset, .unset, .unset] [(.int 0)]))
    refine Goes.on (fun t k => XS.ifNo X10.here hx rfl (hb hby at_39) rfl ((if0 _ _).trans (teq (by decide)).2) k) ?_
    show Goes p e below QQ (T10.setTop (mkF m 42 #[iv p1, iv p2, iv p3, iv p4, rv b1, iv 0, iv p1, .unset, .unset, .unset, .unset, .unset, .unset] []))
    refine Goes.on (fun t k => XS.iloadN X10.here hx rfl (hb hby at_42) rfl k) ?_
    show Goes p e below QQ (T10.setTop (mkF m 43 #[iv p1, iv p2, iv p3, iv p4, rv b1, iv 0, iv p1, .unset, .unset, .unset, .unset, .unset, .unset] [(.int p2)]))
    refine Goes.on (fun t k => XS.goto X10.here hx rfl (pc0 := 43) (pc' := 47) rfl (hb hby at_43) (by decide) (by decide) k) ?_
    show Goes p e below QQ (T10.setTop (mkF m 47 #[iv p1, iv p2, iv p3, iv p4, rv b1, iv 0, iv p1, .unset, .unset, .unset, .unset, .unset, .unset] [(.int p2)]))
    refine Goes.on (fun t k => XS.istore X10.here hx rfl (hb hby at_47) rfl (l' := #[iv p1, iv p2, iv p3, iv p4, rv b1, iv 0, iv p1, iv p2, .unset, .unset, .unset, .unset, .unset]) rfl k) ?_
    show Goes p e below QQ (T10.setTop (mkF m 49 #[iv p1, iv p2, iv p3, iv p4, rv b1, iv 0, iv p1, iv p2, .unset, .unset, .unset, .unset, .unset] []))
    obtain ⟨T12, h12, X12, e12, E12, A12, D12, -, st12⟩ := newO X10 hx hZ hown (hw _ (List.mem_of_getElem? (i := 1) rfl)) (hw _ (List.mem_of_getElem? (i := 2) rfl)) (hw _ (List.mem_of_getElem? (i := 3) rfl)) e10 (g := (mkF m 49 #[iv p1, iv p2, iv p3, iv p4, rv b1, iv 0, iv p1, iv p2, .unset, .unset, .unset, .unset, .unset] [])) rfl (hb hby at_49) (by decide) (by decide)
    obtain ⟨b12, g12⟩ : ∃ z, z = h10.size := ⟨_, rfl⟩
    rw [← g12] at A12 D12 st12
    have sz_b12 : h0.size ≤ b12 := Nat.le_trans K10.1 (Nat.le_of_eq g12.symm)
    have g_b12 : n0 ≤ b12 := Nat.le_trans Z0 sz_b12
    have ne_b1_b12 : b1 ≠ b12 := Nat.ne_of_lt (Nat.lt_of_lt_of_le V_11.lt (Nat.le_of_eq g12.symm))
    have V_13 := V_11.ext E12
    have K12 := K10.ext E12
    have F_14 : Fld Z h12 b12 "com/example/lendgate/lendgate/circulation/Decoder" "symbols" "Lcom/example/lendgate/lendgate/circulation/Symbols;" .null := D12 (Or.inr (hw _ (List.mem_of_getElem? (i := 11) rfl))) (ty := (.object "com/example/lendgate/lendgate/circulation/Symbols")) (by decide)
    have F_15 : Fld Z h12 b12 "com/example/lendgate/lendgate/circulation/Decoder" "bytes" "[B" .null := D12 (Or.inr (hw _ (List.mem_of_getElem? (i := 13) rfl))) (ty := (.array .byte)) (by decide)
    have F_16 : Fld Z h12 b12 "com/example/lendgate/lendgate/circulation/Decoder" "position" "I" (.int 0) := D12 (Or.inl (hw _ (List.mem_of_getElem? (i := 15) rfl))) (ty := .int) (by decide)
    refine Goes.on (fun t k => st12 t k) ?_
    show Goes p e below QQ (T12.setTop (mkF m 52 #[iv p1, iv p2, iv p3, iv p4, rv b1, iv 0, iv p1, iv p2, .unset, .unset, .unset, .unset, .unset] [(.ref b12)]))
    refine Goes.on (fun t k => XS.dup X12.here hx rfl (hb hby at_52) rfl rfl k) ?_
    show Goes p e below QQ (T12.setTop (mkF m 53 #[iv p1, iv p2, iv p3, iv p4, rv b1, iv 0, iv p1, iv p2, .unset, .unset, .unset, .unset, .unset] [(.ref b12), (.ref b12)]))
    refine Goes.on (fun t k => XS.aconstNull X12.here hx rfl (hb hby at_53) k) ?_
    show Goes p e below QQ (T12.setTop (mkF m 54 #[iv p1, iv p2, iv p3, iv p4, rv b1, iv 0, iv p1, iv p2, .unset, .unset, .unset, .unset, .unset] [.null, (.ref b12), (.ref b12)]))
    refine Goes.on (fun t k => XS.aload X12.here hx rfl (hb hby at_54) rfl rfl k) ?_
    show Goes p e below QQ (T12.setTop (mkF m 56 #[iv p1, iv p2, iv p3, iv p4, rv b1, iv 0, iv p1, iv p2, .unset, .unset, .unset, .unset, .unset] [(.ref b1), .null, (.ref b12), (.ref b12)]))
    refine Goes.on (fun t k => XS.iload X12.here hx rfl (hb hby at_56) rfl k) ?_
    show Goes p e below QQ (T12.setTop (mkF m 58 #[iv p1, iv p2, iv p3, iv p4, rv b1, iv 0, iv p1, iv p2, .unset, .unset, .unset, .unset, .unset] [(.int 0), (.ref b1), .null, (.ref b12), (.ref b12)]))
    obtain ⟨_, _, ⟨T17, L17, k17, n17⟩, -, X17, ⟨Lc17, hQ17, l17, y17, z17⟩, st17⟩ := X12.specialBack hx (y := (⟨"com/example/lendgate/lendgate/circulation/Decoder", "<init>", "(Lcom/example/lendgate/lendgate/circulation/Symbols;[BI)V"⟩ : MethodName)) rfl hown (mvT hZ (hw _ (List.mem_of_getElem? (i := 4) rfl))) (mvT hZ (hw _ (List.mem_of_getElem? (i := 5) rfl))) (mvT hZ (hw _ (List.mem_of_getElem? (i := 6) rfl))) (by decide) (backOf (W := 1) (rm1 l Z a0 hw [] b12 b1 (0 : Int32) h12 n0 (Nat.le_trans Z0 K12.1) A12 F_14 F_15 F_16 g_b12) hZ (hw _ (List.mem_of_getElem? (i := 6) rfl)) (hw _ (List.mem_of_getElem? (i := 3) rfl)) (by decide) (by decide)) (g := (mkF m 58 #[iv p1, iv p2, iv p3, iv p4, rv b1, iv 0, iv p1, iv p2, .unset, .unset, .unset, .unset, .unset] [(.int 0), (.ref b1), .null, (.ref b12), (.ref b12)])) rfl (by rw [hml]; rfl) (Steps.refl _) (a := b12) (argsL := [.null, (.ref b1), (.int 0)]) (rest := [(.ref b12)]) (lenOf pd_0 rfl) rfl (by show 2 * 0 + _ ≤ _; exact Nat.le_of_eq rfl) (hb hby at_58) (fun _ _ => ⟨rfl, e12, (by decide : 2 + 0 ≤ _), (by decide : 6 + 0 ≤ _)⟩)
    dsimp only [Pt.U, Pt.locs, Pt.cells, Pt.slots] at X17 l17 y17 z17 st17 hQ17
    subst l17 y17 z17
    obtain ⟨rfl, M17, Kc, Fb, Fp⟩ := hQ17
    have N17 := Fr.app N10 M17
    refine Goes.on (fun t k => st17.trans k) ?_
    have V_18 := V_13.keep Kc (ninS ne_b1_b12 nin0)
    have A12_19 := A12.keep Kc
    have K23 := K12.trans Kc (allS (Or.inr sz_b12) all0)
    show Goes p e below QQ (T17.setTop (mkF m 61 #[iv p1, iv p2, iv p3, iv p4, rv b1, iv 0, iv p1, iv p2, .unset, .unset, .unset, .unset, .unset] [(.ref b12)]))
    refine Goes.on (fun t k => XS.astore X17.here hx rfl (hb hby at_61) rfl rfl (l' := #[iv p1, iv p2, iv p3, iv p4, rv b1, iv 0, iv p1, iv p2, rv b12, .unset, .unset, .unset, .unset]) rfl k) ?_
    show Goes p e below QQ (T17.setTop (mkF m 63 #[iv p1, iv p2, iv p3, iv p4, rv b1, iv 0, iv p1, iv p2, rv b12, .unset, .unset, .unset, .unset] []))
    refine Goes.on (fun t k => XS.aload X17.here hx rfl (hb hby at_63) rfl rfl k) ?_
    show Goes p e below QQ (T17.setTop (mkF m 65 #[iv p1, iv p2, iv p3, iv p4, rv b1, iv 0, iv p1, iv p2, rv b12, .unset, .unset, .unset, .unset] [(.ref b12)]))
    obtain ⟨cq25, kq25, q25a, q25b, q25c⟩ := isOf hZ rfl A12_19
    obtain ⟨_, _, ⟨T25, L25, k25, n25⟩, -, X25, ⟨Lc25, hQ25, l25, y25, z25⟩, st25⟩ := X17.virtualBack hx (y := (⟨"com/example/lendgate/lendgate/circulation/Decoder", "flag", "()Z"⟩ : MethodName)) (z := (⟨"com/example/lendgate/lendgate/circulation/Decoder", "flag", "()Z"⟩ : MethodName)) hown (mvT hZ (hw _ (List.mem_of_getElem? (i := 16) rfl))) (mvT hZ (hw _ (List.mem_of_getElem? (i := 17) rfl))) (notFace_of_selects (args := #[]) (mvT hZ (hw _ (List.mem_of_getElem? (i := 19) rfl)))) (mvT hZ (hw _ (List.mem_of_getElem? (i := 19) rfl))) (mvT hZ (hw _ (List.mem_of_getElem? (i := 18) rfl))) (by decide) (backOf (W := 0) (rm3 l Z a0 hw [] b12 b1 (0 : Int32) p1.toInt8.toInt32.toInt8.toInt32 k1 (3 : Int32) [(.int p1.toInt8.toInt32.toInt8.toInt32), (.int p2.toInt8.toInt32.toInt8.toInt32), (.int p3.toInt8.toInt32.toInt8.toInt32)] T17.heap n0 (Nat.le_trans Z0 K23.1) A12_19 Fb Fp V_18 g_b12 ne_b1_b12 ⟨by decide, by decide⟩ rfl) hZ (hw _ (List.mem_of_getElem? (i := 20) rfl)) (hw _ (List.mem_of_getElem? (i := 3) rfl)) (by decide) (by decide)) q25a q25c (g := (mkF m 65 #[iv p1, iv p2, iv p3, iv p4, rv b1, iv 0, iv p1, iv p2, rv b12, .unset, .unset, .unset, .unset] [(.ref b12)])) rfl (by rw [hml]; rfl) (Steps.refl _) (argsL := []) (rest := []) (lenOf pd_1 rfl) rfl (by show 2 * 0 + _ ≤ _; exact Nat.le_of_eq rfl) (hb hby at_65) (fun _ _ => ⟨rfl, rfl, (by decide : 2 + 0 ≤ _), (by decide : 6 + 0 ≤ _)⟩)
    dsimp only [Pt.U, Pt.locs, Pt.cells, Pt.slots] at X25 l25 y25 z25 st25 hQ25
    subst l25 y25 z25
    obtain ⟨rfl, M25, Kc24, Fb24, Fp24⟩ := hQ25
    have N25 := Fr.app N17 M25
    refine Goes.on (fun t k => st25.trans k) ?_
    have V_26 := V_18.keep Kc24 (ninS ne_b1_b12 nin0)
    have A12_27 := A12_19.keep Kc24
    have K30 := K23.trans Kc24 (allS (Or.inr sz_b12) all0)
    show Goes p e below QQ (T25.setTop (mkF m 68 #[iv p1, iv p2, iv p3, iv p4, rv b1, iv 0, iv p1, iv p2, rv b12, .unset, .unset, .unset, .unset] [(.int (flagV p1.toInt8.toInt32.toInt8.toInt32))]))
    rw [(by decide : ((0 : Int32) + (1 : Int32)) = (1 : Int32))] at Fp24
    show Goes p e below QQ (T25.setTop (mkF m 68 #[iv p1, iv p2, iv p3, iv p4, rv b1, iv 0, iv p1, iv p2, rv b12, .unset, .unset, .unset, .unset] [(.int (flagV p1.toInt8.toInt32.toInt8.toInt32))]))
    refine Goes.on (fun t k => XS.istore X25.here hx rfl (hb hby at_68) rfl (l' := #[iv p1, iv p2, iv p3, iv p4, rv b1, iv 0, iv p1, iv p2, rv b12, iv (flagV p1.toInt8.toInt32.toInt8.toInt32), .unset, .unset, .unset]) rfl k) ?_
    show Goes p e below QQ (T25.setTop (mkF m 70 #[iv p1, iv p2, iv p3, iv p4, rv b1, iv 0, iv p1, iv p2, rv b12, iv (flagV p1.toInt8.toInt32.toInt8.toInt32), .unset, .unset, .unset] []))
    refine Goes.on (fun t k => XS.aload X25.here hx rfl (hb hby at_70) rfl rfl k) ?_
    show Goes p e below QQ (T25.setTop (mkF m 72 #[iv p1, iv p2, iv p3, iv p4, rv b1, iv 0, iv p1, iv p2, rv b12, iv (flagV p1.toInt8.toInt32.toInt8.toInt32), .unset, .unset, .unset] [(.ref b12)]))
    obtain ⟨cq31, kq31, q31a, q31b, q31c⟩ := isOf hZ rfl A12_27
    obtain ⟨_, _, ⟨T31, L31, k31, n31⟩, -, X31, ⟨Lc31, hQ31, l31, y31, z31⟩, st31⟩ := X25.virtualBack hx (y := (⟨"com/example/lendgate/lendgate/circulation/Decoder", "position", "()I"⟩ : MethodName)) (z := (⟨"com/example/lendgate/lendgate/circulation/Decoder", "position", "()I"⟩ : MethodName)) hown (mvT hZ (hw _ (List.mem_of_getElem? (i := 21) rfl))) (mvT hZ (hw _ (List.mem_of_getElem? (i := 22) rfl))) (notFace_of_selects (args := #[]) (mvT hZ (hw _ (List.mem_of_getElem? (i := 24) rfl)))) (mvT hZ (hw _ (List.mem_of_getElem? (i := 24) rfl))) (mvT hZ (hw _ (List.mem_of_getElem? (i := 23) rfl))) (by decide) (backOf (W := 0) (rm4 l Z a0 hw [] b12 (1 : Int32) T25.heap n0 (Nat.le_trans Z0 K30.1) Fp24) hZ (hw _ (List.mem_of_getElem? (i := 25) rfl)) (hw _ (List.mem_of_getElem? (i := 3) rfl)) (by decide) (by decide)) q31a q31c (g := (mkF m 72 #[iv p1, iv p2, iv p3, iv p4, rv b1, iv 0, iv p1, iv p2, rv b12, iv (flagV p1.toInt8.toInt32.toInt8.toInt32), .unset, .unset, .unset] [(.ref b12)])) rfl (by rw [hml]; rfl) (Steps.refl _) (argsL := []) (rest := []) (lenOf pd_2 rfl) rfl (by show 2 * 0 + _ ≤ _; exact Nat.le_of_eq rfl) (hb hby at_72) (fun _ _ => ⟨rfl, rfl, (by decide : 2 + 0 ≤ _), (by decide : 6 + 0 ≤ _)⟩)
    dsimp only [Pt.U, Pt.locs, Pt.cells, Pt.slots] at X31 l31 y31 z31 st31 hQ31
    subst l31 y31 z31
    obtain ⟨rfl, M31, e31⟩ := hQ31
    have N31 := Fr.app N25 M31
    refine Goes.on (fun t k => st31.trans k) ?_
    show Goes p e below QQ (T31.setTop (mkF m 75 #[iv p1, iv p2, iv p3, iv p4, rv b1, iv 0, iv p1, iv p2, rv b12, iv (flagV p1.toInt8.toInt32.toInt8.toInt32), .unset, .unset, .unset] [(.int 1)]))
    refine Goes.on (fun t k => XS.istore X31.here hx rfl (hb hby at_75) rfl (l' := #[iv p1, iv p2, iv p3, iv p4, rv b1, iv 0, iv p1, iv p2, rv b12, iv (flagV p1.toInt8.toInt32.toInt8.toInt32), iv 1, .unset, .unset]) rfl k) ?_
    show Goes p e below QQ (T31.setTop (mkF m 77 #[iv p1, iv p2, iv p3, iv p4, rv b1, iv 0, iv p1, iv p2, rv b12, iv (flagV p1.toInt8.toInt32.toInt8.toInt32), iv 1, .unset, .unset] []))
    refine Goes.on (fun t k => XS.aload X31.here hx rfl (hb hby at_77) rfl rfl k) ?_
    show Goes p e below QQ (T31.setTop (mkF m 79 #[iv p1, iv p2, iv p3, iv p4, rv b1, iv 0, iv p1, iv p2, rv b12, iv (flagV p1.toInt8.toInt32.toInt8.toInt32), iv 1, .unset, .unset] [(.ref b12)]))
    obtain ⟨cq33, kq33, q33a, q33b, q33c⟩ := isOf hZ e31 A12_27
    obtain ⟨_, _, ⟨T33, L33, k33, n33⟩, -, X33, ⟨Lc33, hQ33, l33, y33, z33⟩, st33⟩ := X31.virtualBack hx (y := (⟨"com/example/lendgate/lendgate/circulation/Decoder", "flag", "()Z"⟩ : MethodName)) (z := (⟨"com/example/lendgate/lendgate/circulation/Decoder", "flag", "()Z"⟩ : MethodName)) hown (mvT hZ (hw _ (List.mem_of_getElem? (i := 16) rfl))) (mvT hZ (hw _ (List.mem_of_getElem? (i := 17) rfl))) (notFace_of_selects (args := #[]) (mvT hZ (hw _ (List.mem_of_getElem? (i := 19) rfl)))) (mvT hZ (hw _ (List.mem_of_getElem? (i := 19) rfl))) (mvT hZ (hw _ (List.mem_of_getElem? (i := 18) rfl))) (by decide) (backOf (W := 0) (rm3 l Z a0 hw [] b12 b1 (1 : Int32) p2.toInt8.toInt32.toInt8.toInt32 k1 (3 : Int32) [(.int p1.toInt8.toInt32.toInt8.toInt32), (.int p2.toInt8.toInt32.toInt8.toInt32), (.int p3.toInt8.toInt32.toInt8.toInt32)] T25.heap n0 (Nat.le_trans Z0 K30.1) A12_27 Fb24 Fp24 V_26 g_b12 ne_b1_b12 ⟨by decide, by decide⟩ rfl) hZ (hw _ (List.mem_of_getElem? (i := 20) rfl)) (hw _ (List.mem_of_getElem? (i := 3) rfl)) (by decide) (by decide)) q33a q33c (g := (mkF m 79 #[iv p1, iv p2, iv p3, iv p4, rv b1, iv 0, iv p1, iv p2, rv b12, iv (flagV p1.toInt8.toInt32.toInt8.toInt32), iv 1, .unset, .unset] [(.ref b12)])) rfl (by rw [hml]; rfl) (Steps.refl _) (argsL := []) (rest := []) (lenOf pd_1 rfl) rfl (by show 2 * 0 + _ ≤ _; exact Nat.le_of_eq rfl) (hb hby at_79) (fun _ _ => ⟨rfl, e31, (by decide : 2 + 0 ≤ _), (by decide : 6 + 0 ≤ _)⟩)
    dsimp only [Pt.U, Pt.locs, Pt.cells, Pt.slots] at X33 l33 y33 z33 st33 hQ33
    subst l33 y33 z33
    obtain ⟨rfl, M33, Kc32, Fb32, Fp32⟩ := hQ33
    have N33 := Fr.app N31 M33
    refine Goes.on (fun t k => st33.trans k) ?_
    have V_34 := V_26.keep Kc32 (ninS ne_b1_b12 nin0)
    have A12_35 := A12_27.keep Kc32
    have K38 := K30.trans Kc32 (allS (Or.inr sz_b12) all0)
    show Goes p e below QQ (T33.setTop (mkF m 82 #[iv p1, iv p2, iv p3, iv p4, rv b1, iv 0, iv p1, iv p2, rv b12, iv (flagV p1.toInt8.toInt32.toInt8.toInt32), iv 1, .unset, .unset] [(.int (flagV p2.toInt8.toInt32.toInt8.toInt32))]))
    rw [(by decide : ((1 : Int32) + (1 : Int32)) = (2 : Int32))] at Fp32
    show Goes p e below QQ (T33.setTop (mkF m 82 #[iv p1, iv p2, iv p3, iv p4, rv b1, iv 0, iv p1, iv p2, rv b12, iv (flagV p1.toInt8.toInt32.toInt8.toInt32), iv 1, .unset, .unset] [(.int (flagV p2.toInt8.toInt32.toInt8.toInt32))]))
    refine Goes.on (fun t k => XS.istore X33.here hx rfl (hb hby at_82) rfl (l' := #[iv p1, iv p2, iv p3, iv p4, rv b1, iv 0, iv p1, iv p2, rv b12, iv (flagV p1.toInt8.toInt32.toInt8.toInt32), iv 1, iv (flagV p2.toInt8.toInt32.toInt8.toInt32), .unset]) rfl k) ?_
    show Goes p e below QQ (T33.setTop (mkF m 84 #[iv p1, iv p2, iv p3, iv p4, rv b1, iv 0, iv p1, iv p2, rv b12, iv (flagV p1.toInt8.toInt32.toInt8.toInt32), iv 1, iv (flagV p2.toInt8.toInt32.toInt8.toInt32), .unset] []))
    refine Goes.on (fun t k => XS.aload X33.here hx rfl (hb hby at_84) rfl rfl k) ?_
    show Goes p e below QQ (T33.setTop (mkF m 86 #[iv p1, iv p2, iv p3, iv p4, rv b1, iv 0, iv p1, iv p2, rv b12, iv (flagV p1.toInt8.toInt32.toInt8.toInt32), iv 1, iv (flagV p2.toInt8.toInt32.toInt8.toInt32), .unset] [(.ref b12)]))
    obtain ⟨cq39, kq39, q39a, q39b, q39c⟩ := isOf hZ rfl A12_35
    obtain ⟨_, _, ⟨T39, L39, k39, n39⟩, -, X39, ⟨Lc39, hQ39, l39, y39, z39⟩, st39⟩ := X33.virtualBack hx (y := (⟨"com/example/lendgate/lendgate/circulation/Decoder", "position", "()I"⟩ : MethodName)) (z := (⟨"com/example/lendgate/lendgate/circulation/Decoder", "position", "()I"⟩ : MethodName)) hown (mvT hZ (hw _ (List.mem_of_getElem? (i := 21) rfl))) (mvT hZ (hw _ (List.mem_of_getElem? (i := 22) rfl))) (notFace_of_selects (args := #[]) (mvT hZ (hw _ (List.mem_of_getElem? (i := 24) rfl)))) (mvT hZ (hw _ (List.mem_of_getElem? (i := 24) rfl))) (mvT hZ (hw _ (List.mem_of_getElem? (i := 23) rfl))) (by decide) (backOf (W := 0) (rm4 l Z a0 hw [] b12 (2 : Int32) T33.heap n0 (Nat.le_trans Z0 K38.1) Fp32) hZ (hw _ (List.mem_of_getElem? (i := 25) rfl)) (hw _ (List.mem_of_getElem? (i := 3) rfl)) (by decide) (by decide)) q39a q39c (g := (mkF m 86 #[iv p1, iv p2, iv p3, iv p4, rv b1, iv 0, iv p1, iv p2, rv b12, iv (flagV p1.toInt8.toInt32.toInt8.toInt32), iv 1, iv (flagV p2.toInt8.toInt32.toInt8.toInt32), .unset] [(.ref b12)])) rfl (by rw [hml]; rfl) (Steps.refl _) (argsL := []) (rest := []) (lenOf pd_2 rfl) rfl (by show 2 * 0 + _ ≤ _; exact Nat.le_of_eq rfl) (hb hby at_86) (fun _ _ => ⟨rfl, rfl, (by decide : 2 + 0 ≤ _), (by decide : 6 + 0 ≤ _)⟩)
    dsimp only [Pt.U, Pt.locs, Pt.cells, Pt.slots] at X39 l39 y39 z39 st39 hQ39
    subst l39 y39 z39
    obtain ⟨rfl, M39, e39⟩ := hQ39
    have N39 := Fr.app N33 M39
    refine Goes.on (fun t k => st39.trans k) ?_
    show Goes p e below QQ (T39.setTop (mkF m 89 #[iv p1, iv p2, iv p3, iv p4, rv b1, iv 0, iv p1, iv p2, rv b12, iv (flagV p1.toInt8.toInt32.toInt8.toInt32), iv 1, iv (flagV p2.toInt8.toInt32.toInt8.toInt32), .unset] [(.int 2)]))
    refine Goes.on (fun t k => XS.istore X39.here hx rfl (hb hby at_89) rfl (l' := #[iv p1, iv p2, iv p3, iv p4, rv b1, iv 0, iv p1, iv p2, rv b12, iv (flagV p1.toInt8.toInt32.toInt8.toInt32), iv 1, iv (flagV p2.toInt8.toInt32.toInt8.toInt32), iv 2]) rfl k) ?_
    show Goes p e below QQ (T39.setTop (mkF m 91 #[iv p1, iv p2, iv p3, iv p4, rv b1, iv 0, iv p1, iv p2, rv b12, iv (flagV p1.toInt8.toInt32.toInt8.toInt32), iv 1, iv (flagV p2.toInt8.toInt32.toInt8.toInt32), iv 2] []))
    refine Goes.on (fun t k => XS.iload X39.here hx rfl (hb hby at_91) rfl k) ?_
    show Goes p e below QQ (T39.setTop (mkF m 93 #[iv p1, iv p2, iv p3, iv p4, rv b1, iv 0, iv p1, iv p2, rv b12, iv (flagV p1.toInt8.toInt32.toInt8.toInt32), iv 1, iv (flagV p2.toInt8.toInt32.toInt8.toInt32), iv 2] [(.int (flagV p1.toInt8.toInt32.toInt8.toInt32))]))
    refine Goes.on (fun t k => XS.iload X39.here hx rfl (hb hby at_93) rfl k) ?_
    show Goes p e below QQ (T39.setTop (mkF m 95 #[iv p1, iv p2, iv p3, iv p4, rv b1, iv 0, iv p1, iv p2, rv b12, iv (flagV p1.toInt8.toInt32.toInt8.toInt32), iv 1, iv (flagV p2.toInt8.toInt32.toInt8.toInt32), iv 2] [(.int p1), (.int (flagV p1.toInt8.toInt32.toInt8.toInt32))]))
    refine Goes.on (fun t k => XS.sipush X39.here hx rfl (hb hby at_95) k) ?_
    show Goes p e below QQ (T39.setTop (mkF m 98 #[iv p1, iv p2, iv p3, iv p4, rv b1, iv 0, iv p1, iv p2, rv b12, iv (flagV p1.toInt8.toInt32.toInt8.toInt32), iv 1, iv (flagV p2.toInt8.toInt32.toInt8.toInt32), iv 2] [(.int 255), (.int p1), (.int (flagV p1.toInt8.toInt32.toInt8.toInt32))]))
    refine Goes.on (fun t k => XS.iand X39.here hx rfl (hb hby at_98) rfl k) ?_
    show Goes p e below QQ (T39.setTop (mkF m 99 #[iv p1, iv p2, iv p3, iv p4, rv b1, iv 0, iv p1, iv p2, rv b12, iv (flagV p1.toInt8.toInt32.toInt8.toInt32), iv 1, iv (flagV p2.toInt8.toInt32.toInt8.toInt32), iv 2] [(.int (p1 &&& (255 : Int32))), (.int (flagV p1.toInt8.toInt32.toInt8.toInt32))]))
    by_cases hb40 : (p1 &&& (255 : Int32)) = (0 : Int32)
    · refine Goes.on (fun t k => XS.ifYes X39.here hx rfl (pc0 := 99) (pc' := 106) rfl (hb hby at_99) rfl ((if0 _ _).trans (teq hb40).1) (by decide) (by decide) k) ?_
      show Goes p e below QQ (T39.setTop (mkF m 106 #[iv p1, iv p2, iv p3, iv p4, rv b1, iv 0, iv p1, iv p2, rv b12, iv (flagV p1.toInt8.toInt32.toInt8.toInt32), iv 1, iv (flagV p2.toInt8.toInt32.toInt8.toInt32), iv 2] [(.int (flagV p1.toInt8.toInt32.toInt8.toInt32))]))
      refine Goes.on (fun t k => XS.iconst X39.here hx rfl (hb hby at_106) k) ?_
      show Goes p e below QQ (T39.setTop (mkF m 107 #[iv p1, iv p2, iv p3, iv p4, rv b1, iv 0, iv p1, iv p2, rv b12, iv (flagV p1.toInt8.toInt32.toInt8.toInt32), iv 1, iv (flagV p2.toInt8.toInt32.toInt8.toInt32), iv 2] [(.int 0), (.int (flagV p1.toInt8.toInt32.toInt8.toInt32))]))
      by_cases hb41 : (flagV p1.toInt8.toInt32.toInt8.toInt32) = (0 : Int32)
      · refine Goes.on (fun t k => XS.icmpNo X39.here hx rfl (hb hby at_107) rfl (teq hb41).2 k) ?_
        show Goes p e below QQ (T39.setTop (mkF m 110 #[iv p1, iv p2, iv p3, iv p4, rv b1, iv 0, iv p1, iv p2, rv b12, iv (flagV p1.toInt8.toInt32.toInt8.toInt32), iv 1, iv (flagV p2.toInt8.toInt32.toInt8.toInt32), iv 2] []))
        refine Goes.on (fun t k => XS.iload X39.here hx rfl (hb hby at_110) rfl k) ?_
        show Goes p e below QQ (T39.setTop (mkF m 112 #[iv p1, iv p2, iv p3, iv p4, rv b1, iv 0, iv p1, iv p2, rv b12, iv (flagV p1.toInt8.toInt32.toInt8.toInt32), iv 1, iv (flagV p2.toInt8.toInt32.toInt8.toInt32), iv 2] [(.int 1)]))
        refine Goes.on (fun t k => XS.iload X39.here hx rfl (hb hby at_112) rfl k) ?_
        show Goes p e below QQ (T39.setTop (mkF m 114 #[iv p1, iv p2, iv p3, iv p4, rv b1, iv 0, iv p1, iv p2, rv b12, iv (flagV p1.toInt8.toInt32.toInt8.toInt32), iv 1, iv (flagV p2.toInt8.toInt32.toInt8.toInt32), iv 2] [(.int 0), (.int 1)]))
        refine Goes.on (fun t k => XS.iconst X39.here hx rfl (hb hby at_114) k) ?_
        show Goes p e below QQ (T39.setTop (mkF m 115 #[iv p1, iv p2, iv p3, iv p4, rv b1, iv 0, iv p1, iv p2, rv b12, iv (flagV p1.toInt8.toInt32.toInt8.toInt32), iv 1, iv (flagV p2.toInt8.toInt32.toInt8.toInt32), iv 2] [(.int 1), (.int 0), (.int 1)]))
        refine Goes.on (fun t k => XS.iadd X39.here hx rfl (hb hby at_115) rfl k) ?_
        show Goes p e below QQ (T39.setTop (mkF m 116 #[iv p1, iv p2, iv p3, iv p4, rv b1, iv 0, iv p1, iv p2, rv b12, iv (flagV p1.toInt8.toInt32.toInt8.toInt32), iv 1, iv (flagV p2.toInt8.toInt32.toInt8.toInt32), iv 2] [(.int ((0 : Int32) + (1 : Int32))), (.int 1)]))
        rw [(by decide : ((0 : Int32) + (1 : Int32)) = (1 : Int32))]
        show Goes p e below QQ (T39.setTop (mkF m 116 #[iv p1, iv p2, iv p3, iv p4, rv b1, iv 0, iv p1, iv p2, rv b12, iv (flagV p1.toInt8.toInt32.toInt8.toInt32), iv 1, iv (flagV p2.toInt8.toInt32.toInt8.toInt32), iv 2] [(.int 1), (.int 1)]))
        refine Goes.on (fun t k => XS.icmpNo X39.here hx rfl (hb hby at_116) rfl (teq (by decide)).2 k) ?_
        show Goes p e below QQ (T39.setTop (mkF m 119 #[iv p1, iv p2, iv p3, iv p4, rv b1, iv 0, iv p1, iv p2, rv b12, iv (flagV p1.toInt8.toInt32.toInt8.toInt32), iv 1, iv (flagV p2.toInt8.toInt32.toInt8.toInt32), iv 2] []))
        refine Goes.on (fun t k => XS.iload X39.here hx rfl (hb hby at_119) rfl k) ?_
        show Goes p e below QQ (T39.setTop (mkF m 121 #[iv p1, iv p2, iv p3, iv p4, rv b1, iv 0, iv p1, iv p2, rv b12, iv (flagV p1.toInt8.toInt32.toInt8.toInt32), iv 1, iv (flagV p2.toInt8.toInt32.toInt8.toInt32), iv 2] [(.int (flagV p2.toInt8.toInt32.toInt8.toInt32))]))
        refine Goes.on (fun t k => XS.iload X39.here hx rfl (hb hby at_121) rfl k) ?_
        show Goes p e below QQ (T39.setTop (mkF m 123 #[iv p1, iv p2, iv p3, iv p4, rv b1, iv 0, iv p1, iv p2, rv b12, iv (flagV p1.toInt8.toInt32.toInt8.toInt32), iv 1, iv (flagV p2.toInt8.toInt32.toInt8.toInt32), iv 2] [(.int p2), (.int (flagV p2.toInt8.toInt32.toInt8.toInt32))]))
        refine Goes.on (fun t k => XS.sipush X39.here hx rfl (hb hby at_123) k) ?_
        show Goes p e below QQ (T39.setTop (mkF m 126 #[iv p1, iv p2, iv p3, iv p4, rv b1, iv 0, iv p1, iv p2, rv b12, iv (flagV p1.toInt8.toInt32.toInt8.toInt32), iv 1, iv (flagV p2.toInt8.toInt32.toInt8.toInt32), iv 2] [(.int 255), (.int p2), (.int (flagV p2.toInt8.toInt32.toInt8.toInt32))]))
        refine Goes.on (fun t k => XS.iand X39.here hx rfl (hb hby at_126) rfl k) ?_
        show Goes p e below QQ (T39.setTop (mkF m 127 #[iv p1, iv p2, iv p3, iv p4, rv b1, iv 0, iv p1, iv p2, rv b12, iv (flagV p1.toInt8.toInt32.toInt8.toInt32), iv 1, iv (flagV p2.toInt8.toInt32.toInt8.toInt32), iv 2] [(.int (p2 &&& (255 : Int32))), (.int (flagV p2.toInt8.toInt32.toInt8.toInt32))]))
        by_cases hb42 : (p2 &&& (255 : Int32)) = (0 : Int32)
        · refine Goes.on (fun t k => XS.ifYes X39.here hx rfl (pc0 := 127) (pc' := 134) rfl (hb hby at_127) rfl ((if0 _ _).trans (teq hb42).1) (by decide) (by decide) k) ?_
          show Goes p e below QQ (T39.setTop (mkF m 134 #[iv p1, iv p2, iv p3, iv p4, rv b1, iv 0, iv p1, iv p2, rv b12, iv (flagV p1.toInt8.toInt32.toInt8.toInt32), iv 1, iv (flagV p2.toInt8.toInt32.toInt8.toInt32), iv 2] [(.int (flagV p2.toInt8.toInt32.toInt8.toInt32))]))
          refine Goes.on (fun t k => XS.iconst X39.here hx rfl (hb hby at_134) k) ?_
          show Goes p e below QQ (T39.setTop (mkF m 135 #[iv p1, iv p2, iv p3, iv p4, rv b1, iv 0, iv p1, iv p2, rv b12, iv (flagV p1.toInt8.toInt32.toInt8.toInt32), iv 1, iv (flagV p2.toInt8.toInt32.toInt8.toInt32), iv 2] [(.int 0), (.int (flagV p2.toInt8.toInt32.toInt8.toInt32))]))
          by_cases hb43 : (flagV p2.toInt8.toInt32.toInt8.toInt32) = (0 : Int32)
          · refine Goes.on (fun t k => XS.icmpNo X39.here hx rfl (hb hby at_135) rfl (teq hb43).2 k) ?_
            show Goes p e below QQ (T39.setTop (mkF m 138 #[iv p1, iv p2, iv p3, iv p4, rv b1, iv 0, iv p1, iv p2, rv b12, iv (flagV p1.toInt8.toInt32.toInt8.toInt32), iv 1, iv (flagV p2.toInt8.toInt32.toInt8.toInt32), iv 2] []))
            refine Goes.on (fun t k => XS.iload X39.here hx rfl (hb hby at_138) rfl k) ?_
            show Goes p e below QQ (T39.setTop (mkF m 140 #[iv p1, iv p2, iv p3, iv p4, rv b1, iv 0, iv p1, iv p2, rv b12, iv (flagV p1.toInt8.toInt32.toInt8.toInt32), iv 1, iv (flagV p2.toInt8.toInt32.toInt8.toInt32), iv 2] [(.int 2)]))
            refine Goes.on (fun t k => XS.iload X39.here hx rfl (hb hby at_140) rfl k) ?_
            show Goes p e below QQ (T39.setTop (mkF m 142 #[iv p1, iv p2, iv p3, iv p4, rv b1, iv 0, iv p1, iv p2, rv b12, iv (flagV p1.toInt8.toInt32.toInt8.toInt32), iv 1, iv (flagV p2.toInt8.toInt32.toInt8.toInt32), iv 2] [(.int 0), (.int 2)]))
            refine Goes.on (fun t k => XS.iconst X39.here hx rfl (hb hby at_142) k) ?_
            show Goes p e below QQ (T39.setTop (mkF m 143 #[iv p1, iv p2, iv p3, iv p4, rv b1, iv 0, iv p1, iv p2, rv b12, iv (flagV p1.toInt8.toInt32.toInt8.toInt32), iv 1, iv (flagV p2.toInt8.toInt32.toInt8.toInt32), iv 2] [(.int 2), (.int 0), (.int 2)]))
            refine Goes.on (fun t k => XS.iadd X39.here hx rfl (hb hby at_143) rfl k) ?_
            show Goes p e below QQ (T39.setTop (mkF m 144 #[iv p1, iv p2, iv p3, iv p4, rv b1, iv 0, iv p1, iv p2, rv b12, iv (flagV p1.toInt8.toInt32.toInt8.toInt32), iv 1, iv (flagV p2.toInt8.toInt32.toInt8.toInt32), iv 2] [(.int ((0 : Int32) + (2 : Int32))), (.int 2)]))
            rw [(by decide : ((0 : Int32) + (2 : Int32)) = (2 : Int32))]
            show Goes p e below QQ (T39.setTop (mkF m 144 #[iv p1, iv p2, iv p3, iv p4, rv b1, iv 0, iv p1, iv p2, rv b12, iv (flagV p1.toInt8.toInt32.toInt8.toInt32), iv 1, iv (flagV p2.toInt8.toInt32.toInt8.toInt32), iv 2] [(.int 2), (.int 2)]))
            refine Goes.on (fun t k => XS.icmpNo X39.here hx rfl (hb hby at_144) rfl (teq (by decide)).2 k) ?_
            show Goes p e below QQ (T39.setTop (mkF m 147 #[iv p1, iv p2, iv p3, iv p4, rv b1, iv 0, iv p1, iv p2, rv b12, iv (flagV p1.toInt8.toInt32.toInt8.toInt32), iv 1, iv (flagV p2.toInt8.toInt32.toInt8.toInt32), iv 2] []))
            refine Goes.on (fun t k => XS.iconst X39.here hx rfl (hb hby at_147) k) ?_
            show Goes p e below QQ (T39.setTop (mkF m 148 #[iv p1, iv p2, iv p3, iv p4, rv b1, iv 0, iv p1, iv p2, rv b12, iv (flagV p1.toInt8.toInt32.toInt8.toInt32), iv 1, iv (flagV p2.toInt8.toInt32.toInt8.toInt32), iv 2] [(.int 1)]))
            refine Goes.on (fun t k => XS.goto X39.here hx rfl (pc0 := 148) (pc' := 152) rfl (hb hby at_148) (by decide) (by decide) k) ?_
            show Goes p e below QQ (T39.setTop (mkF m 152 #[iv p1, iv p2, iv p3, iv p4, rv b1, iv 0, iv p1, iv p2, rv b12, iv (flagV p1.toInt8.toInt32.toInt8.toInt32), iv 1, iv (flagV p2.toInt8.toInt32.toInt8.toInt32), iv 2] [(.int 1)]))
            exact Goes.rN X39 hx (t := .boolean) hret (by simp) hlk (hb hby at_152) hQQ ⟨rfl, N39⟩ (by decide) (by decide)
          · refine Goes.on (fun t k => XS.icmpYes X39.here hx rfl (pc0 := 135) (pc' := 151) rfl (hb hby at_135) rfl (feq hb43).2 (by decide) (by decide) k) ?_
            show Goes p e below QQ (T39.setTop (mkF m 151 #[iv p1, iv p2, iv p3, iv p4, rv b1, iv 0, iv p1, iv p2, rv b12, iv (flagV p1.toInt8.toInt32.toInt8.toInt32), iv 1, iv (flagV p2.toInt8.toInt32.toInt8.toInt32), iv 2] []))
            refine Goes.on (fun t k => XS.iconst X39.here hx rfl (hb hby at_151) k) ?_
            show Goes p e below QQ (T39.setTop (mkF m 152 #[iv p1, iv p2, iv p3, iv p4, rv b1, iv 0, iv p1, iv p2, rv b12, iv (flagV p1.toInt8.toInt32.toInt8.toInt32), iv 1, iv (flagV p2.toInt8.toInt32.toInt8.toInt32), iv 2] [(.int 0)]))
            exact absurd ((((if_pos hst).trans ((if_pos hb40).trans ((if_pos hb41).trans ((if_pos hb42).trans ((if_neg hb43).trans rfl))))) : lawF p1 p2 p3 p4 = (0 : Int32)).symm.trans (lawT p1 p2 p3 p4)) (by decide)
        · refine Goes.on (fun t k => XS.ifNo X39.here hx rfl (hb hby at_127) rfl ((if0 _ _).trans (feq hb42).1) k) ?_
          show Goes p e below QQ (T39.setTop (mkF m 130 #[iv p1, iv p2, iv p3, iv p4, rv b1, iv 0, iv p1, iv p2, rv b12, iv (flagV p1.toInt8.toInt32.toInt8.toInt32), iv 1, iv (flagV p2.toInt8.toInt32.toInt8.toInt32), iv 2] [(.int (flagV p2.toInt8.toInt32.toInt8.toInt32))]))
          refine Goes.on (fun t k => XS.iconst X39.here hx rfl (hb hby at_130) k) ?_
          show Goes p e below QQ (T39.setTop (mkF m 131 #[iv p1, iv p2, iv p3, iv p4, rv b1, iv 0, iv p1, iv p2, rv b12, iv (flagV p1.toInt8.toInt32.toInt8.toInt32), iv 1, iv (flagV p2.toInt8.toInt32.toInt8.toInt32), iv 2] [(.int 1), (.int (flagV p2.toInt8.toInt32.toInt8.toInt32))]))
          refine Goes.on (fun t k => XS.goto X39.here hx rfl (pc0 := 131) (pc' := 135) rfl (hb hby at_131) (by decide) (by decide) k) ?_
          show Goes p e below QQ (T39.setTop (mkF m 135 #[iv p1, iv p2, iv p3, iv p4, rv b1, iv 0, iv p1, iv p2, rv b12, iv (flagV p1.toInt8.toInt32.toInt8.toInt32), iv 1, iv (flagV p2.toInt8.toInt32.toInt8.toInt32), iv 2] [(.int 1), (.int (flagV p2.toInt8.toInt32.toInt8.toInt32))]))
          by_cases hb44 : (flagV p2.toInt8.toInt32.toInt8.toInt32) = (1 : Int32)
          · refine Goes.on (fun t k => XS.icmpNo X39.here hx rfl (hb hby at_135) rfl (teq hb44).2 k) ?_
            show Goes p e below QQ (T39.setTop (mkF m 138 #[iv p1, iv p2, iv p3, iv p4, rv b1, iv 0, iv p1, iv p2, rv b12, iv (flagV p1.toInt8.toInt32.toInt8.toInt32), iv 1, iv (flagV p2.toInt8.toInt32.toInt8.toInt32), iv 2] []))
            refine Goes.on (fun t k => XS.iload X39.here hx rfl (hb hby at_138) rfl k) ?_
            show Goes p e below QQ (T39.setTop (mkF m 140 #[iv p1, iv p2, iv p3, iv p4, rv b1, iv 0, iv p1, iv p2, rv b12, iv (flagV p1.toInt8.toInt32.toInt8.toInt32), iv 1, iv (flagV p2.toInt8.toInt32.toInt8.toInt32), iv 2] [(.int 2)]))
            refine Goes.on (fun t k => XS.iload X39.here hx rfl (hb hby at_140) rfl k) ?_
            show Goes p e below QQ (T39.setTop (mkF m 142 #[iv p1, iv p2, iv p3, iv p4, rv b1, iv 0, iv p1, iv p2, rv b12, iv (flagV p1.toInt8.toInt32.toInt8.toInt32), iv 1, iv (flagV p2.toInt8.toInt32.toInt8.toInt32), iv 2] [(.int 0), (.int 2)]))
            refine Goes.on (fun t k => XS.iconst X39.here hx rfl (hb hby at_142) k) ?_
            show Goes p e below QQ (T39.setTop (mkF m 143 #[iv p1, iv p2, iv p3, iv p4, rv b1, iv 0, iv p1, iv p2, rv b12, iv (flagV p1.toInt8.toInt32.toInt8.toInt32), iv 1, iv (flagV p2.toInt8.toInt32.toInt8.toInt32), iv 2] [(.int 2), (.int 0), (.int 2)]))
            refine Goes.on (fun t k => XS.iadd X39.here hx rfl (hb hby at_143) rfl k) ?_
            show Goes p e below QQ (T39.setTop (mkF m 144 #[iv p1, iv p2, iv p3, iv p4, rv b1, iv 0, iv p1, iv p2, rv b12, iv (flagV p1.toInt8.toInt32.toInt8.toInt32), iv 1, iv (flagV p2.toInt8.toInt32.toInt8.toInt32), iv 2] [(.int ((0 : Int32) + (2 : Int32))), (.int 2)]))
            rw [(by decide : ((0 : Int32) + (2 : Int32)) = (2 : Int32))]
            show Goes p e below QQ (T39.setTop (mkF m 144 #[iv p1, iv p2, iv p3, iv p4, rv b1, iv 0, iv p1, iv p2, rv b12, iv (flagV p1.toInt8.toInt32.toInt8.toInt32), iv 1, iv (flagV p2.toInt8.toInt32.toInt8.toInt32), iv 2] [(.int 2), (.int 2)]))
            refine Goes.on (fun t k => XS.icmpNo X39.here hx rfl (hb hby at_144) rfl (teq (by decide)).2 k) ?_
            show Goes p e below QQ (T39.setTop (mkF m 147 #[iv p1, iv p2, iv p3, iv p4, rv b1, iv 0, iv p1, iv p2, rv b12, iv (flagV p1.toInt8.toInt32.toInt8.toInt32), iv 1, iv (flagV p2.toInt8.toInt32.toInt8.toInt32), iv 2] []))
            refine Goes.on (fun t k => XS.iconst X39.here hx rfl (hb hby at_147) k) ?_
            show Goes p e below QQ (T39.setTop (mkF m 148 #[iv p1, iv p2, iv p3, iv p4, rv b1, iv 0, iv p1, iv p2, rv b12, iv (flagV p1.toInt8.toInt32.toInt8.toInt32), iv 1, iv (flagV p2.toInt8.toInt32.toInt8.toInt32), iv 2] [(.int 1)]))
            refine Goes.on (fun t k => XS.goto X39.here hx rfl (pc0 := 148) (pc' := 152) rfl (hb hby at_148) (by decide) (by decide) k) ?_
            show Goes p e below QQ (T39.setTop (mkF m 152 #[iv p1, iv p2, iv p3, iv p4, rv b1, iv 0, iv p1, iv p2, rv b12, iv (flagV p1.toInt8.toInt32.toInt8.toInt32), iv 1, iv (flagV p2.toInt8.toInt32.toInt8.toInt32), iv 2] [(.int 1)]))
            exact Goes.rN X39 hx (t := .boolean) hret (by simp) hlk (hb hby at_152) hQQ ⟨rfl, N39⟩ (by decide) (by decide)
          · refine Goes.on (fun t k => XS.icmpYes X39.here hx rfl (pc0 := 135) (pc' := 151) rfl (hb hby at_135) rfl (feq hb44).2 (by decide) (by decide) k) ?_
            show Goes p e below QQ (T39.setTop (mkF m 151 #[iv p1, iv p2, iv p3, iv p4, rv b1, iv 0, iv p1, iv p2, rv b12, iv (flagV p1.toInt8.toInt32.toInt8.toInt32), iv 1, iv (flagV p2.toInt8.toInt32.toInt8.toInt32), iv 2] []))
            refine Goes.on (fun t k => XS.iconst X39.here hx rfl (hb hby at_151) k) ?_
            show Goes p e below QQ (T39.setTop (mkF m 152 #[iv p1, iv p2, iv p3, iv p4, rv b1, iv 0, iv p1, iv p2, rv b12, iv (flagV p1.toInt8.toInt32.toInt8.toInt32), iv 1, iv (flagV p2.toInt8.toInt32.toInt8.toInt32), iv 2] [(.int 0)]))
            exact absurd ((((if_pos hst).trans ((if_pos hb40).trans ((if_pos hb41).trans ((if_neg hb42).trans ((if_neg hb44).trans rfl))))) : lawF p1 p2 p3 p4 = (0 : Int32)).symm.trans (lawT p1 p2 p3 p4)) (by decide)
      · refine Goes.on (fun t k => XS.icmpYes X39.here hx rfl (pc0 := 107) (pc' := 151) rfl (hb hby at_107) rfl (feq hb41).2 (by decide) (by decide) k) ?_
        show Goes p e below QQ (T39.setTop (mkF m 151 #[iv p1, iv p2, iv p3, iv p4, rv b1, iv 0, iv p1, iv p2, rv b12, iv (flagV p1.toInt8.toInt32.toInt8.toInt32), iv 1, iv (flagV p2.toInt8.toInt32.toInt8.toInt32), iv 2] []))
        refine Goes.on (fun t k => XS.iconst X39.here hx rfl (hb hby at_151) k) ?_
        show Goes p e below QQ (T39.setTop (mkF m 152 #[iv p1, iv p2, iv p3, iv p4, rv b1, iv 0, iv p1, iv p2, rv b12, iv (flagV p1.toInt8.toInt32.toInt8.toInt32), iv 1, iv (flagV p2.toInt8.toInt32.toInt8.toInt32), iv 2] [(.int 0)]))
        exact absurd ((((if_pos hst).trans ((if_pos hb40).trans ((if_neg hb41).trans rfl))) : lawF p1 p2 p3 p4 = (0 : Int32)).symm.trans (lawT p1 p2 p3 p4)) (by decide)
    · refine Goes.on (fun t k => XS.ifNo X39.here hx rfl (hb hby at_99) rfl ((if0 _ _).trans (feq hb40).1) k) ?_
      show Goes p e below QQ (T39.setTop (mkF m 102 #[iv p1, iv p2, iv p3, iv p4, rv b1, iv 0, iv p1, iv p2, rv b12, iv (flagV p1.toInt8.toInt32.toInt8.toInt32), iv 1, iv (flagV p2.toInt8.toInt32.toInt8.toInt32), iv 2] [(.int (flagV p1.toInt8.toInt32.toInt8.toInt32))]))
      refine Goes.on (fun t k => XS.iconst X39.here hx rfl (hb hby at_102) k) ?_
      show Goes p e below QQ (T39.setTop (mkF m 103 #[iv p1, iv p2, iv p3, iv p4, rv b1, iv 0, iv p1, iv p2, rv b12, iv (flagV p1.toInt8.toInt32.toInt8.toInt32), iv 1, iv (flagV p2.toInt8.toInt32.toInt8.toInt32), iv 2] [(.int 1), (.int (flagV p1.toInt8.toInt32.toInt8.toInt32))]))
      refine Goes.on (fun t k => XS.goto X39.here hx rfl (pc0 := 103) (pc' := 107) rfl (hb hby at_103) (by decide) (by decide) k) ?_
      show Goes p e below QQ (T39.setTop (mkF m 107 #[iv p1, iv p2, iv p3, iv p4, rv b1, iv 0, iv p1, iv p2, rv b12, iv (flagV p1.toInt8.toInt32.toInt8.toInt32), iv 1, iv (flagV p2.toInt8.toInt32.toInt8.toInt32), iv 2] [(.int 1), (.int (flagV p1.toInt8.toInt32.toInt8.toInt32))]))
      by_cases hb45 : (flagV p1.toInt8.toInt32.toInt8.toInt32) = (1 : Int32)
      · refine Goes.on (fun t k => XS.icmpNo X39.here hx rfl (hb hby at_107) rfl (teq hb45).2 k) ?_
        show Goes p e below QQ (T39.setTop (mkF m 110 #[iv p1, iv p2, iv p3, iv p4, rv b1, iv 0, iv p1, iv p2, rv b12, iv (flagV p1.toInt8.toInt32.toInt8.toInt32), iv 1, iv (flagV p2.toInt8.toInt32.toInt8.toInt32), iv 2] []))
        refine Goes.on (fun t k => XS.iload X39.here hx rfl (hb hby at_110) rfl k) ?_
        show Goes p e below QQ (T39.setTop (mkF m 112 #[iv p1, iv p2, iv p3, iv p4, rv b1, iv 0, iv p1, iv p2, rv b12, iv (flagV p1.toInt8.toInt32.toInt8.toInt32), iv 1, iv (flagV p2.toInt8.toInt32.toInt8.toInt32), iv 2] [(.int 1)]))
        refine Goes.on (fun t k => XS.iload X39.here hx rfl (hb hby at_112) rfl k) ?_
        show Goes p e below QQ (T39.setTop (mkF m 114 #[iv p1, iv p2, iv p3, iv p4, rv b1, iv 0, iv p1, iv p2, rv b12, iv (flagV p1.toInt8.toInt32.toInt8.toInt32), iv 1, iv (flagV p2.toInt8.toInt32.toInt8.toInt32), iv 2] [(.int 0), (.int 1)]))
        refine Goes.on (fun t k => XS.iconst X39.here hx rfl (hb hby at_114) k) ?_
        show Goes p e below QQ (T39.setTop (mkF m 115 #[iv p1, iv p2, iv p3, iv p4, rv b1, iv 0, iv p1, iv p2, rv b12, iv (flagV p1.toInt8.toInt32.toInt8.toInt32), iv 1, iv (flagV p2.toInt8.toInt32.toInt8.toInt32), iv 2] [(.int 1), (.int 0), (.int 1)]))
        refine Goes.on (fun t k => XS.iadd X39.here hx rfl (hb hby at_115) rfl k) ?_
        show Goes p e below QQ (T39.setTop (mkF m 116 #[iv p1, iv p2, iv p3, iv p4, rv b1, iv 0, iv p1, iv p2, rv b12, iv (flagV p1.toInt8.toInt32.toInt8.toInt32), iv 1, iv (flagV p2.toInt8.toInt32.toInt8.toInt32), iv 2] [(.int ((0 : Int32) + (1 : Int32))), (.int 1)]))
        rw [(by decide : ((0 : Int32) + (1 : Int32)) = (1 : Int32))]
        show Goes p e below QQ (T39.setTop (mkF m 116 #[iv p1, iv p2, iv p3, iv p4, rv b1, iv 0, iv p1, iv p2, rv b12, iv (flagV p1.toInt8.toInt32.toInt8.toInt32), iv 1, iv (flagV p2.toInt8.toInt32.toInt8.toInt32), iv 2] [(.int 1), (.int 1)]))
        refine Goes.on (fun t k => XS.icmpNo X39.here hx rfl (hb hby at_116) rfl (teq (by decide)).2 k) ?_
        show Goes p e below QQ (T39.setTop (mkF m 119 #[iv p1, iv p2, iv p3, iv p4, rv b1, iv 0, iv p1, iv p2, rv b12, iv (flagV p1.toInt8.toInt32.toInt8.toInt32), iv 1, iv (flagV p2.toInt8.toInt32.toInt8.toInt32), iv 2] []))
        refine Goes.on (fun t k => XS.iload X39.here hx rfl (hb hby at_119) rfl k) ?_
        show Goes p e below QQ (T39.setTop (mkF m 121 #[iv p1, iv p2, iv p3, iv p4, rv b1, iv 0, iv p1, iv p2, rv b12, iv (flagV p1.toInt8.toInt32.toInt8.toInt32), iv 1, iv (flagV p2.toInt8.toInt32.toInt8.toInt32), iv 2] [(.int (flagV p2.toInt8.toInt32.toInt8.toInt32))]))
        refine Goes.on (fun t k => XS.iload X39.here hx rfl (hb hby at_121) rfl k) ?_
        show Goes p e below QQ (T39.setTop (mkF m 123 #[iv p1, iv p2, iv p3, iv p4, rv b1, iv 0, iv p1, iv p2, rv b12, iv (flagV p1.toInt8.toInt32.toInt8.toInt32), iv 1, iv (flagV p2.toInt8.toInt32.toInt8.toInt32), iv 2] [(.int p2), (.int (flagV p2.toInt8.toInt32.toInt8.toInt32))]))
        refine Goes.on (fun t k => XS.sipush X39.here hx rfl (hb hby at_123) k) ?_
        show Goes p e below QQ (T39.setTop (mkF m 126 #[iv p1, iv p2, iv p3, iv p4, rv b1, iv 0, iv p1, iv p2, rv b12, iv (flagV p1.toInt8.toInt32.toInt8.toInt32), iv 1, iv (flagV p2.toInt8.toInt32.toInt8.toInt32), iv 2] [(.int 255), (.int p2), (.int (flagV p2.toInt8.toInt32.toInt8.toInt32))]))
        refine Goes.on (fun t k => XS.iand X39.here hx rfl (hb hby at_126) rfl k) ?_
        show Goes p e below QQ (T39.setTop (mkF m 127 #[iv p1, iv p2, iv p3, iv p4, rv b1, iv 0, iv p1, iv p2, rv b12, iv (flagV p1.toInt8.toInt32.toInt8.toInt32), iv 1, iv (flagV p2.toInt8.toInt32.toInt8.toInt32), iv 2] [(.int (p2 &&& (255 : Int32))), (.int (flagV p2.toInt8.toInt32.toInt8.toInt32))]))
        by_cases hb46 : (p2 &&& (255 : Int32)) = (0 : Int32)
        · refine Goes.on (fun t k => XS.ifYes X39.here hx rfl (pc0 := 127) (pc' := 134) rfl (hb hby at_127) rfl ((if0 _ _).trans (teq hb46).1) (by decide) (by decide) k) ?_
          show Goes p e below QQ (T39.setTop (mkF m 134 #[iv p1, iv p2, iv p3, iv p4, rv b1, iv 0, iv p1, iv p2, rv b12, iv (flagV p1.toInt8.toInt32.toInt8.toInt32), iv 1, iv (flagV p2.toInt8.toInt32.toInt8.toInt32), iv 2] [(.int (flagV p2.toInt8.toInt32.toInt8.toInt32))]))
          refine Goes.on (fun t k => XS.iconst X39.here hx rfl (hb hby at_134) k) ?_
          show Goes p e below QQ (T39.setTop (mkF m 135 #[iv p1, iv p2, iv p3, iv p4, rv b1, iv 0, iv p1, iv p2, rv b12, iv (flagV p1.toInt8.toInt32.toInt8.toInt32), iv 1, iv (flagV p2.toInt8.toInt32.toInt8.toInt32), iv 2] [(.int 0), (.int (flagV p2.toInt8.toInt32.toInt8.toInt32))]))
          by_cases hb47 : (flagV p2.toInt8.toInt32.toInt8.toInt32) = (0 : Int32)
          · refine Goes.on (fun t k => XS.icmpNo X39.here hx rfl (hb hby at_135) rfl (teq hb47).2 k) ?_
            show Goes p e below QQ (T39.setTop (mkF m 138 #[iv p1, iv p2, iv p3, iv p4, rv b1, iv 0, iv p1, iv p2, rv b12, iv (flagV p1.toInt8.toInt32.toInt8.toInt32), iv 1, iv (flagV p2.toInt8.toInt32.toInt8.toInt32), iv 2] []))
            refine Goes.on (fun t k => XS.iload X39.here hx rfl (hb hby at_138) rfl k) ?_
            show Goes p e below QQ (T39.setTop (mkF m 140 #[iv p1, iv p2, iv p3, iv p4, rv b1, iv 0, iv p1, iv p2, rv b12, iv (flagV p1.toInt8.toInt32.toInt8.toInt32), iv 1, iv (flagV p2.toInt8.toInt32.toInt8.toInt32), iv 2] [(.int 2)]))
            refine Goes.on (fun t k => XS.iload X39.here hx rfl (hb hby at_140) rfl k) ?_
            show Goes p e below QQ (T39.setTop (mkF m 142 #[iv p1, iv p2, iv p3, iv p4, rv b1, iv 0, iv p1, iv p2, rv b12, iv (flagV p1.toInt8.toInt32.toInt8.toInt32), iv 1, iv (flagV p2.toInt8.toInt32.toInt8.toInt32), iv 2] [(.int 0), (.int 2)]))
            refine Goes.on (fun t k => XS.iconst X39.here hx rfl (hb hby at_142) k) ?_
            show Goes p e below QQ (T39.setTop (mkF m 143 #[iv p1, iv p2, iv p3, iv p4, rv b1, iv 0, iv p1, iv p2, rv b12, iv (flagV p1.toInt8.toInt32.toInt8.toInt32), iv 1, iv (flagV p2.toInt8.toInt32.toInt8.toInt32), iv 2] [(.int 2), (.int 0), (.int 2)]))
            refine Goes.on (fun t k => XS.iadd X39.here hx rfl (hb hby at_143) rfl k) ?_
            show Goes p e below QQ (T39.setTop (mkF m 144 #[iv p1, iv p2, iv p3, iv p4, rv b1, iv 0, iv p1, iv p2, rv b12, iv (flagV p1.toInt8.toInt32.toInt8.toInt32), iv 1, iv (flagV p2.toInt8.toInt32.toInt8.toInt32), iv 2] [(.int ((0 : Int32) + (2 : Int32))), (.int 2)]))
            rw [(by decide : ((0 : Int32) + (2 : Int32)) = (2 : Int32))]
            show Goes p e below QQ (T39.setTop (mkF m 144 #[iv p1, iv p2, iv p3, iv p4, rv b1, iv 0, iv p1, iv p2, rv b12, iv (flagV p1.toInt8.toInt32.toInt8.toInt32), iv 1, iv (flagV p2.toInt8.toInt32.toInt8.toInt32), iv 2] [(.int 2), (.int 2)]))
            refine Goes.on (fun t k => XS.icmpNo X39.here hx rfl (hb hby at_144) rfl (teq (by decide)).2 k) ?_
            show Goes p e below QQ (T39.setTop (mkF m 147 #[iv p1, iv p2, iv p3, iv p4, rv b1, iv 0, iv p1, iv p2, rv b12, iv (flagV p1.toInt8.toInt32.toInt8.toInt32), iv 1, iv (flagV p2.toInt8.toInt32.toInt8.toInt32), iv 2] []))
            refine Goes.on (fun t k => XS.iconst X39.here hx rfl (hb hby at_147) k) ?_
            show Goes p e below QQ (T39.setTop (mkF m 148 #[iv p1, iv p2, iv p3, iv p4, rv b1, iv 0, iv p1, iv p2, rv b12, iv (flagV p1.toInt8.toInt32.toInt8.toInt32), iv 1, iv (flagV p2.toInt8.toInt32.toInt8.toInt32), iv 2] [(.int 1)]))
            refine Goes.on (fun t k => XS.goto X39.here hx rfl (pc0 := 148) (pc' := 152) rfl (hb hby at_148) (by decide) (by decide) k) ?_
            show Goes p e below QQ (T39.setTop (mkF m 152 #[iv p1, iv p2, iv p3, iv p4, rv b1, iv 0, iv p1, iv p2, rv b12, iv (flagV p1.toInt8.toInt32.toInt8.toInt32), iv 1, iv (flagV p2.toInt8.toInt32.toInt8.toInt32), iv 2] [(.int 1)]))
            exact Goes.rN X39 hx (t := .boolean) hret (by simp) hlk (hb hby at_152) hQQ ⟨rfl, N39⟩ (by decide) (by decide)
          · refine Goes.on (fun t k => XS.icmpYes X39.here hx rfl (pc0 := 135) (pc' := 151) rfl (hb hby at_135) rfl (feq hb47).2 (by decide) (by decide) k) ?_
            show Goes p e below QQ (T39.setTop (mkF m 151 #[iv p1, iv p2, iv p3, iv p4, rv b1, iv 0, iv p1, iv p2, rv b12, iv (flagV p1.toInt8.toInt32.toInt8.toInt32), iv 1, iv (flagV p2.toInt8.toInt32.toInt8.toInt32), iv 2] []))
            refine Goes.on (fun t k => XS.iconst X39.here hx rfl (hb hby at_151) k) ?_
            show Goes p e below QQ (T39.setTop (mkF m 152 #[iv p1, iv p2, iv p3, iv p4, rv b1, iv 0, iv p1, iv p2, rv b12, iv (flagV p1.toInt8.toInt32.toInt8.toInt32), iv 1, iv (flagV p2.toInt8.toInt32.toInt8.toInt32), iv 2] [(.int 0)]))
            exact absurd ((((if_pos hst).trans ((if_neg hb40).trans ((if_pos hb45).trans ((if_pos hb46).trans ((if_neg hb47).trans rfl))))) : lawF p1 p2 p3 p4 = (0 : Int32)).symm.trans (lawT p1 p2 p3 p4)) (by decide)
        · refine Goes.on (fun t k => XS.ifNo X39.here hx rfl (hb hby at_127) rfl ((if0 _ _).trans (feq hb46).1) k) ?_
          show Goes p e below QQ (T39.setTop (mkF m 130 #[iv p1, iv p2, iv p3, iv p4, rv b1, iv 0, iv p1, iv p2, rv b12, iv (flagV p1.toInt8.toInt32.toInt8.toInt32), iv 1, iv (flagV p2.toInt8.toInt32.toInt8.toInt32), iv 2] [(.int (flagV p2.toInt8.toInt32.toInt8.toInt32))]))
          refine Goes.on (fun t k => XS.iconst X39.here hx rfl (hb hby at_130) k) ?_
          show Goes p e below QQ (T39.setTop (mkF m 131 #[iv p1, iv p2, iv p3, iv p4, rv b1, iv 0, iv p1, iv p2, rv b12, iv (flagV p1.toInt8.toInt32.toInt8.toInt32), iv 1, iv (flagV p2.toInt8.toInt32.toInt8.toInt32), iv 2] [(.int 1), (.int (flagV p2.toInt8.toInt32.toInt8.toInt32))]))
          refine Goes.on (fun t k => XS.goto X39.here hx rfl (pc0 := 131) (pc' := 135) rfl (hb hby at_131) (by decide) (by decide) k) ?_
          show Goes p e below QQ (T39.setTop (mkF m 135 #[iv p1, iv p2, iv p3, iv p4, rv b1, iv 0, iv p1, iv p2, rv b12, iv (flagV p1.toInt8.toInt32.toInt8.toInt32), iv 1, iv (flagV p2.toInt8.toInt32.toInt8.toInt32), iv 2] [(.int 1), (.int (flagV p2.toInt8.toInt32.toInt8.toInt32))]))
          by_cases hb48 : (flagV p2.toInt8.toInt32.toInt8.toInt32) = (1 : Int32)
          · refine Goes.on (fun t k => XS.icmpNo X39.here hx rfl (hb hby at_135) rfl (teq hb48).2 k) ?_
            show Goes p e below QQ (T39.setTop (mkF m 138 #[iv p1, iv p2, iv p3, iv p4, rv b1, iv 0, iv p1, iv p2, rv b12, iv (flagV p1.toInt8.toInt32.toInt8.toInt32), iv 1, iv (flagV p2.toInt8.toInt32.toInt8.toInt32), iv 2] []))
            refine Goes.on (fun t k => XS.iload X39.here hx rfl (hb hby at_138) rfl k) ?_
            show Goes p e below QQ (T39.setTop (mkF m 140 #[iv p1, iv p2, iv p3, iv p4, rv b1, iv 0, iv p1, iv p2, rv b12, iv (flagV p1.toInt8.toInt32.toInt8.toInt32), iv 1, iv (flagV p2.toInt8.toInt32.toInt8.toInt32), iv 2] [(.int 2)]))
            refine Goes.on (fun t k => XS.iload X39.here hx rfl (hb hby at_140) rfl k) ?_
            show Goes p e below QQ (T39.setTop (mkF m 142 #[iv p1, iv p2, iv p3, iv p4, rv b1, iv 0, iv p1, iv p2, rv b12, iv (flagV p1.toInt8.toInt32.toInt8.toInt32), iv 1, iv (flagV p2.toInt8.toInt32.toInt8.toInt32), iv 2] [(.int 0), (.int 2)]))
            refine Goes.on (fun t k => XS.iconst X39.here hx rfl (hb hby at_142) k) ?_
            show Goes p e below QQ (T39.setTop (mkF m 143 #[iv p1, iv p2, iv p3, iv p4, rv b1, iv 0, iv p1, iv p2, rv b12, iv (flagV p1.toInt8.toInt32.toInt8.toInt32), iv 1, iv (flagV p2.toInt8.toInt32.toInt8.toInt32), iv 2] [(.int 2), (.int 0), (.int 2)]))
            refine Goes.on (fun t k => XS.iadd X39.here hx rfl (hb hby at_143) rfl k) ?_
            show Goes p e below QQ (T39.setTop (mkF m 144 #[iv p1, iv p2, iv p3, iv p4, rv b1, iv 0, iv p1, iv p2, rv b12, iv (flagV p1.toInt8.toInt32.toInt8.toInt32), iv 1, iv (flagV p2.toInt8.toInt32.toInt8.toInt32), iv 2] [(.int ((0 : Int32) + (2 : Int32))), (.int 2)]))
            rw [(by decide : ((0 : Int32) + (2 : Int32)) = (2 : Int32))]
            show Goes p e below QQ (T39.setTop (mkF m 144 #[iv p1, iv p2, iv p3, iv p4, rv b1, iv 0, iv p1, iv p2, rv b12, iv (flagV p1.toInt8.toInt32.toInt8.toInt32), iv 1, iv (flagV p2.toInt8.toInt32.toInt8.toInt32), iv 2] [(.int 2), (.int 2)]))
            refine Goes.on (fun t k => XS.icmpNo X39.here hx rfl (hb hby at_144) rfl (teq (by decide)).2 k) ?_
            show Goes p e below QQ (T39.setTop (mkF m 147 #[iv p1, iv p2, iv p3, iv p4, rv b1, iv 0, iv p1, iv p2, rv b12, iv (flagV p1.toInt8.toInt32.toInt8.toInt32), iv 1, iv (flagV p2.toInt8.toInt32.toInt8.toInt32), iv 2] []))
            refine Goes.on (fun t k => XS.iconst X39.here hx rfl (hb hby at_147) k) ?_
            show Goes p e below QQ (T39.setTop (mkF m 148 #[iv p1, iv p2, iv p3, iv p4, rv b1, iv 0, iv p1, iv p2, rv b12, iv (flagV p1.toInt8.toInt32.toInt8.toInt32), iv 1, iv (flagV p2.toInt8.toInt32.toInt8.toInt32), iv 2] [(.int 1)]))
            refine Goes.on (fun t k => XS.goto X39.here hx rfl (pc0 := 148) (pc' := 152) rfl (hb hby at_148) (by decide) (by decide) k) ?_
            show Goes p e below QQ (T39.setTop (mkF m 152 #[iv p1, iv p2, iv p3, iv p4, rv b1, iv 0, iv p1, iv p2, rv b12, iv (flagV p1.toInt8.toInt32.toInt8.toInt32), iv 1, iv (flagV p2.toInt8.toInt32.toInt8.toInt32), iv 2] [(.int 1)]))
            exact Goes.rN X39 hx (t := .boolean) hret (by simp) hlk (hb hby at_152) hQQ ⟨rfl, N39⟩ (by decide) (by decide)
          · refine Goes.on (fun t k => XS.icmpYes X39.here hx rfl (pc0 := 135) (pc' := 151) rfl (hb hby at_135) rfl (feq hb48).2 (by decide) (by decide) k) ?_
            show Goes p e below QQ (T39.setTop (mkF m 151 #[iv p1, iv p2, iv p3, iv p4, rv b1, iv 0, iv p1, iv p2, rv b12, iv (flagV p1.toInt8.toInt32.toInt8.toInt32), iv 1, iv (flagV p2.toInt8.toInt32.toInt8.toInt32), iv 2] []))
            refine Goes.on (fun t k => XS.iconst X39.here hx rfl (hb hby at_151) k) ?_
            show Goes p e below QQ (T39.setTop (mkF m 152 #[iv p1, iv p2, iv p3, iv p4, rv b1, iv 0, iv p1, iv p2, rv b12, iv (flagV p1.toInt8.toInt32.toInt8.toInt32), iv 1, iv (flagV p2.toInt8.toInt32.toInt8.toInt32), iv 2] [(.int 0)]))
            exact absurd ((((if_pos hst).trans ((if_neg hb40).trans ((if_pos hb45).trans ((if_neg hb46).trans ((if_neg hb48).trans rfl))))) : lawF p1 p2 p3 p4 = (0 : Int32)).symm.trans (lawT p1 p2 p3 p4)) (by decide)
      · refine Goes.on (fun t k => XS.icmpYes X39.here hx rfl (pc0 := 107) (pc' := 151) rfl (hb hby at_107) rfl (feq hb45).2 (by decide) (by decide) k) ?_
        show Goes p e below QQ (T39.setTop (mkF m 151 #[iv p1, iv p2, iv p3, iv p4, rv b1, iv 0, iv p1, iv p2, rv b12, iv (flagV p1.toInt8.toInt32.toInt8.toInt32), iv 1, iv (flagV p2.toInt8.toInt32.toInt8.toInt32), iv 2] []))
        refine Goes.on (fun t k => XS.iconst X39.here hx rfl (hb hby at_151) k) ?_
        show Goes p e below QQ (T39.setTop (mkF m 152 #[iv p1, iv p2, iv p3, iv p4, rv b1, iv 0, iv p1, iv p2, rv b12, iv (flagV p1.toInt8.toInt32.toInt8.toInt32), iv 1, iv (flagV p2.toInt8.toInt32.toInt8.toInt32), iv 2] [(.int 0)]))
        exact absurd ((((if_pos hst).trans ((if_neg hb40).trans ((if_neg hb45).trans rfl))) : lawF p1 p2 p3 p4 = (0 : Int32)).symm.trans (lawT p1 p2 p3 p4)) (by decide)
  · rw [own_bit p4 hst]
    show Goes p e below QQ (T10.setTop (mkF m 25 #[iv p1, iv p2, iv p3, iv p4, rv b1, iv 1, .unset, .unset, .unset, .unset, .unset, .unset, .unset] []))
    refine Goes.on (fun t k => XS.iload X10.here hx rfl (hb hby at_25) rfl k) ?_
    show Goes p e below QQ (T10.setTop (mkF m 27 #[iv p1, iv p2, iv p3, iv p4, rv b1, iv 1, .unset, .unset, .unset, .unset, .unset, .unset, .unset] [(.int 1)]))
    refine Goes.on (fun t k => XS.ifYes X10.here hx rfl (pc0 := 27) (pc' := 34) rfl (hb hby at_27) rfl ((if0 _ _).trans (feq (by decide)).2) (by decide) (by decide) k) ?_
    show Goes p e below QQ (T10.setTop (mkF m 34 #[iv p1, iv p2, iv p3, iv p4, rv b1, iv 1, .unset, .unset, .unset, .unset, .unset, .unset, .unset] []))
    refine Goes.on (fun t k => XS.iloadN X10.here hx rfl (hb hby at_34) rfl k) ?_
    show Goes p e below QQ (T10.setTop (mkF m 35 #[iv p1, iv p2, iv p3, iv p4, rv b1, iv 1, .unset, .unset, .unset, .unset, .unset, .unset, .unset] [(.int p2)]))
    refine Goes.on (fun t k => XS.istore X10.here hx rfl (hb hby at_35) rfl (l' := #[iv p1, iv p2, iv p3, iv p4, rv b1, iv 1, iv p2, .unset, .unset, .unset, .unset, .unset, .unset]) rfl k) ?_
    show Goes p e below QQ (T10.setTop (mkF m 37 #[iv p1, iv p2, iv p3, iv p4, rv b1, iv 1, iv p2, .unset, .unset, .unset, .unset, .unset, .unset] []))
    refine Goes.on (fun t k => XS.iload X10.here hx rfl (hb hby at_37) rfl k) ?_
    show Goes p e below QQ (T10.setTop (mkF m 39 #[iv p1, iv p2, iv p3, iv p4, rv b1, iv 1, iv p2, .unset, .unset, .unset, .unset, .unset, .unset] [(.int 1)]))
    refine Goes.on (fun t k => XS.ifYes X10.here hx rfl (pc0 := 39) (pc' := 46) rfl (hb hby at_39) rfl ((if0 _ _).trans (feq (by decide)).2) (by decide) (by decide) k) ?_
    show Goes p e below QQ (T10.setTop (mkF m 46 #[iv p1, iv p2, iv p3, iv p4, rv b1, iv 1, iv p2, .unset, .unset, .unset, .unset, .unset, .unset] []))
    refine Goes.on (fun t k => XS.iloadN X10.here hx rfl (hb hby at_46) rfl k) ?_
    show Goes p e below QQ (T10.setTop (mkF m 47 #[iv p1, iv p2, iv p3, iv p4, rv b1, iv 1, iv p2, .unset, .unset, .unset, .unset, .unset, .unset] [(.int p3)]))
    refine Goes.on (fun t k => XS.istore X10.here hx rfl (hb hby at_47) rfl (l' := #[iv p1, iv p2, iv p3, iv p4, rv b1, iv 1, iv p2, iv p3, .unset, .unset, .unset, .unset, .unset]) rfl k) ?_
    show Goes p e below QQ (T10.setTop (mkF m 49 #[iv p1, iv p2, iv p3, iv p4, rv b1, iv 1, iv p2, iv p3, .unset, .unset, .unset, .unset, .unset] []))
    obtain ⟨T49, h49, X49, e49, E49, A49, D49, -, st49⟩ := newO X10 hx hZ hown (hw _ (List.mem_of_getElem? (i := 1) rfl)) (hw _ (List.mem_of_getElem? (i := 2) rfl)) (hw _ (List.mem_of_getElem? (i := 3) rfl)) e10 (g := (mkF m 49 #[iv p1, iv p2, iv p3, iv p4, rv b1, iv 1, iv p2, iv p3, .unset, .unset, .unset, .unset, .unset] [])) rfl (hb hby at_49) (by decide) (by decide)
    obtain ⟨b49, g49⟩ : ∃ z, z = h10.size := ⟨_, rfl⟩
    rw [← g49] at A49 D49 st49
    have sz_b49 : h0.size ≤ b49 := Nat.le_trans K10.1 (Nat.le_of_eq g49.symm)
    have g_b49 : n0 ≤ b49 := Nat.le_trans Z0 sz_b49
    have ne_b1_b49 : b1 ≠ b49 := Nat.ne_of_lt (Nat.lt_of_lt_of_le V_11.lt (Nat.le_of_eq g49.symm))
    have V_50 := V_11.ext E49
    have K49 := K10.ext E49
    have F_51 : Fld Z h49 b49 "com/example/lendgate/lendgate/circulation/Decoder" "symbols" "Lcom/example/lendgate/lendgate/circulation/Symbols;" .null := D49 (Or.inr (hw _ (List.mem_of_getElem? (i := 11) rfl))) (ty := (.object "com/example/lendgate/lendgate/circulation/Symbols")) (by decide)
    have F_52 : Fld Z h49 b49 "com/example/lendgate/lendgate/circulation/Decoder" "bytes" "[B" .null := D49 (Or.inr (hw _ (List.mem_of_getElem? (i := 13) rfl))) (ty := (.array .byte)) (by decide)
    have F_53 : Fld Z h49 b49 "com/example/lendgate/lendgate/circulation/Decoder" "position" "I" (.int 0) := D49 (Or.inl (hw _ (List.mem_of_getElem? (i := 15) rfl))) (ty := .int) (by decide)
    refine Goes.on (fun t k => st49 t k) ?_
    show Goes p e below QQ (T49.setTop (mkF m 52 #[iv p1, iv p2, iv p3, iv p4, rv b1, iv 1, iv p2, iv p3, .unset, .unset, .unset, .unset, .unset] [(.ref b49)]))
    refine Goes.on (fun t k => XS.dup X49.here hx rfl (hb hby at_52) rfl rfl k) ?_
    show Goes p e below QQ (T49.setTop (mkF m 53 #[iv p1, iv p2, iv p3, iv p4, rv b1, iv 1, iv p2, iv p3, .unset, .unset, .unset, .unset, .unset] [(.ref b49), (.ref b49)]))
    refine Goes.on (fun t k => XS.aconstNull X49.here hx rfl (hb hby at_53) k) ?_
    show Goes p e below QQ (T49.setTop (mkF m 54 #[iv p1, iv p2, iv p3, iv p4, rv b1, iv 1, iv p2, iv p3, .unset, .unset, .unset, .unset, .unset] [.null, (.ref b49), (.ref b49)]))
    refine Goes.on (fun t k => XS.aload X49.here hx rfl (hb hby at_54) rfl rfl k) ?_
    show Goes p e below QQ (T49.setTop (mkF m 56 #[iv p1, iv p2, iv p3, iv p4, rv b1, iv 1, iv p2, iv p3, .unset, .unset, .unset, .unset, .unset] [(.ref b1), .null, (.ref b49), (.ref b49)]))
    refine Goes.on (fun t k => XS.iload X49.here hx rfl (hb hby at_56) rfl k) ?_
    show Goes p e below QQ (T49.setTop (mkF m 58 #[iv p1, iv p2, iv p3, iv p4, rv b1, iv 1, iv p2, iv p3, .unset, .unset, .unset, .unset, .unset] [(.int 1), (.ref b1), .null, (.ref b49), (.ref b49)]))
    obtain ⟨_, _, ⟨T54, L54, k54, n54⟩, -, X54, ⟨Lc54, hQ54, l54, y54, z54⟩, st54⟩ := X49.specialBack hx (y := (⟨"com/example/lendgate/lendgate/circulation/Decoder", "<init>", "(Lcom/example/lendgate/lendgate/circulation/Symbols;[BI)V"⟩ : MethodName)) rfl hown (mvT hZ (hw _ (List.mem_of_getElem? (i := 4) rfl))) (mvT hZ (hw _ (List.mem_of_getElem? (i := 5) rfl))) (mvT hZ (hw _ (List.mem_of_getElem? (i := 6) rfl))) (by decide) (backOf (W := 1) (rm1 l Z a0 hw [] b49 b1 (1 : Int32) h49 n0 (Nat.le_trans Z0 K49.1) A49 F_51 F_52 F_53 g_b49) hZ (hw _ (List.mem_of_getElem? (i := 6) rfl)) (hw _ (List.mem_of_getElem? (i := 3) rfl)) (by decide) (by decide)) (g := (mkF m 58 #[iv p1, iv p2, iv p3, iv p4, rv b1, iv 1, iv p2, iv p3, .unset, .unset, .unset, .unset, .unset] [(.int 1), (.ref b1), .null, (.ref b49), (.ref b49)])) rfl (by rw [hml]; rfl) (Steps.refl _) (a := b49) (argsL := [.null, (.ref b1), (.int 1)]) (rest := [(.ref b49)]) (lenOf pd_0 rfl) rfl (by show 2 * 0 + _ ≤ _; exact Nat.le_of_eq rfl) (hb hby at_58) (fun _ _ => ⟨rfl, e49, (by decide : 2 + 0 ≤ _), (by decide : 6 + 0 ≤ _)⟩)
    dsimp only [Pt.U, Pt.locs, Pt.cells, Pt.slots] at X54 l54 y54 z54 st54 hQ54
    subst l54 y54 z54
    obtain ⟨rfl, M54, Kc, Fb, Fp⟩ := hQ54
    have N54 := Fr.app N10 M54
    refine Goes.on (fun t k => st54.trans k) ?_
    have V_55 := V_50.keep Kc (ninS ne_b1_b49 nin0)
    have A49_56 := A49.keep Kc
    have K60 := K49.trans Kc (allS (Or.inr sz_b49) all0)
    show Goes p e below QQ (T54.setTop (mkF m 61 #[iv p1, iv p2, iv p3, iv p4, rv b1, iv 1, iv p2, iv p3, .unset, .unset, .unset, .unset, .unset] [(.ref b49)]))
    refine Goes.on (fun t k => XS.astore X54.here hx rfl (hb hby at_61) rfl rfl (l' := #[iv p1, iv p2, iv p3, iv p4, rv b1, iv 1, iv p2, iv p3, rv b49, .unset, .unset, .unset, .unset]) rfl k) ?_
    show Goes p e below QQ (T54.setTop (mkF m 63 #[iv p1, iv p2, iv p3, iv p4, rv b1, iv 1, iv p2, iv p3, rv b49, .unset, .unset, .unset, .unset] []))
    refine Goes.on (fun t k => XS.aload X54.here hx rfl (hb hby at_63) rfl rfl k) ?_
    show Goes p e below QQ (T54.setTop (mkF m 65 #[iv p1, iv p2, iv p3, iv p4, rv b1, iv 1, iv p2, iv p3, rv b49, .unset, .unset, .unset, .unset] [(.ref b49)]))
    obtain ⟨cq62, kq62, q62a, q62b, q62c⟩ := isOf hZ rfl A49_56
    obtain ⟨_, _, ⟨T62, L62, k62, n62⟩, -, X62, ⟨Lc62, hQ62, l62, y62, z62⟩, st62⟩ := X54.virtualBack hx (y := (⟨"com/example/lendgate/lendgate/circulation/Decoder", "flag", "()Z"⟩ : MethodName)) (z := (⟨"com/example/lendgate/lendgate/circulation/Decoder", "flag", "()Z"⟩ : MethodName)) hown (mvT hZ (hw _ (List.mem_of_getElem? (i := 16) rfl))) (mvT hZ (hw _ (List.mem_of_getElem? (i := 17) rfl))) (notFace_of_selects (args := #[]) (mvT hZ (hw _ (List.mem_of_getElem? (i := 19) rfl)))) (mvT hZ (hw _ (List.mem_of_getElem? (i := 19) rfl))) (mvT hZ (hw _ (List.mem_of_getElem? (i := 18) rfl))) (by decide) (backOf (W := 0) (rm3 l Z a0 hw [] b49 b1 (1 : Int32) p2.toInt8.toInt32.toInt8.toInt32 k1 (3 : Int32) [(.int p1.toInt8.toInt32.toInt8.toInt32), (.int p2.toInt8.toInt32.toInt8.toInt32), (.int p3.toInt8.toInt32.toInt8.toInt32)] T54.heap n0 (Nat.le_trans Z0 K60.1) A49_56 Fb Fp V_55 g_b49 ne_b1_b49 ⟨by decide, by decide⟩ rfl) hZ (hw _ (List.mem_of_getElem? (i := 20) rfl)) (hw _ (List.mem_of_getElem? (i := 3) rfl)) (by decide) (by decide)) q62a q62c (g := (mkF m 65 #[iv p1, iv p2, iv p3, iv p4, rv b1, iv 1, iv p2, iv p3, rv b49, .unset, .unset, .unset, .unset] [(.ref b49)])) rfl (by rw [hml]; rfl) (Steps.refl _) (argsL := []) (rest := []) (lenOf pd_1 rfl) rfl (by show 2 * 0 + _ ≤ _; exact Nat.le_of_eq rfl) (hb hby at_65) (fun _ _ => ⟨rfl, rfl, (by decide : 2 + 0 ≤ _), (by decide : 6 + 0 ≤ _)⟩)
    dsimp only [Pt.U, Pt.locs, Pt.cells, Pt.slots] at X62 l62 y62 z62 st62 hQ62
    subst l62 y62 z62
    obtain ⟨rfl, M62, Kc61, Fb61, Fp61⟩ := hQ62
    have N62 := Fr.app N54 M62
    refine Goes.on (fun t k => st62.trans k) ?_
    have V_63 := V_55.keep Kc61 (ninS ne_b1_b49 nin0)
    have A49_64 := A49_56.keep Kc61
    have K67 := K60.trans Kc61 (allS (Or.inr sz_b49) all0)
    show Goes p e below QQ (T62.setTop (mkF m 68 #[iv p1, iv p2, iv p3, iv p4, rv b1, iv 1, iv p2, iv p3, rv b49, .unset, .unset, .unset, .unset] [(.int (flagV p2.toInt8.toInt32.toInt8.toInt32))]))
    rw [(by decide : ((1 : Int32) + (1 : Int32)) = (2 : Int32))] at Fp61
    show Goes p e below QQ (T62.setTop (mkF m 68 #[iv p1, iv p2, iv p3, iv p4, rv b1, iv 1, iv p2, iv p3, rv b49, .unset, .unset, .unset, .unset] [(.int (flagV p2.toInt8.toInt32.toInt8.toInt32))]))
    refine Goes.on (fun t k => XS.istore X62.here hx rfl (hb hby at_68) rfl (l' := #[iv p1, iv p2, iv p3, iv p4, rv b1, iv 1, iv p2, iv p3, rv b49, iv (flagV p2.toInt8.toInt32.toInt8.toInt32), .unset, .unset, .unset]) rfl k) ?_
    show Goes p e below QQ (T62.setTop (mkF m 70 #[iv p1, iv p2, iv p3, iv p4, rv b1, iv 1, iv p2, iv p3, rv b49, iv (flagV p2.toInt8.toInt32.toInt8.toInt32), .unset, .unset, .unset] []))
    refine Goes.on (fun t k => XS.aload X62.here hx rfl (hb hby at_70) rfl rfl k) ?_
    show Goes p e below QQ (T62.setTop (mkF m 72 #[iv p1, iv p2, iv p3, iv p4, rv b1, iv 1, iv p2, iv p3, rv b49, iv (flagV p2.toInt8.toInt32.toInt8.toInt32), .unset, .unset, .unset] [(.ref b49)]))
    obtain ⟨cq68, kq68, q68a, q68b, q68c⟩ := isOf hZ rfl A49_64
    obtain ⟨_, _, ⟨T68, L68, k68, n68⟩, -, X68, ⟨Lc68, hQ68, l68, y68, z68⟩, st68⟩ := X62.virtualBack hx (y := (⟨"com/example/lendgate/lendgate/circulation/Decoder", "position", "()I"⟩ : MethodName)) (z := (⟨"com/example/lendgate/lendgate/circulation/Decoder", "position", "()I"⟩ : MethodName)) hown (mvT hZ (hw _ (List.mem_of_getElem? (i := 21) rfl))) (mvT hZ (hw _ (List.mem_of_getElem? (i := 22) rfl))) (notFace_of_selects (args := #[]) (mvT hZ (hw _ (List.mem_of_getElem? (i := 24) rfl)))) (mvT hZ (hw _ (List.mem_of_getElem? (i := 24) rfl))) (mvT hZ (hw _ (List.mem_of_getElem? (i := 23) rfl))) (by decide) (backOf (W := 0) (rm4 l Z a0 hw [] b49 (2 : Int32) T62.heap n0 (Nat.le_trans Z0 K67.1) Fp61) hZ (hw _ (List.mem_of_getElem? (i := 25) rfl)) (hw _ (List.mem_of_getElem? (i := 3) rfl)) (by decide) (by decide)) q68a q68c (g := (mkF m 72 #[iv p1, iv p2, iv p3, iv p4, rv b1, iv 1, iv p2, iv p3, rv b49, iv (flagV p2.toInt8.toInt32.toInt8.toInt32), .unset, .unset, .unset] [(.ref b49)])) rfl (by rw [hml]; rfl) (Steps.refl _) (argsL := []) (rest := []) (lenOf pd_2 rfl) rfl (by show 2 * 0 + _ ≤ _; exact Nat.le_of_eq rfl) (hb hby at_72) (fun _ _ => ⟨rfl, rfl, (by decide : 2 + 0 ≤ _), (by decide : 6 + 0 ≤ _)⟩)
    dsimp only [Pt.U, Pt.locs, Pt.cells, Pt.slots] at X68 l68 y68 z68 st68 hQ68
    subst l68 y68 z68
    obtain ⟨rfl, M68, e68⟩ := hQ68
    have N68 := Fr.app N62 M68
    refine Goes.on (fun t k => st68.trans k) ?_
    show Goes p e below QQ (T68.setTop (mkF m 75 #[iv p1, iv p2, iv p3, iv p4, rv b1, iv 1, iv p2, iv p3, rv b49, iv (flagV p2.toInt8.toInt32.toInt8.toInt32), .unset, .unset, .unset] [(.int 2)]))
    refine Goes.on (fun t k => XS.istore X68.here hx rfl (hb hby at_75) rfl (l' := #[iv p1, iv p2, iv p3, iv p4, rv b1, iv 1, iv p2, iv p3, rv b49, iv (flagV p2.toInt8.toInt32.toInt8.toInt32), iv 2, .unset, .unset]) rfl k) ?_
    show Goes p e below QQ (T68.setTop (mkF m 77 #[iv p1, iv p2, iv p3, iv p4, rv b1, iv 1, iv p2, iv p3, rv b49, iv (flagV p2.toInt8.toInt32.toInt8.toInt32), iv 2, .unset, .unset] []))
    refine Goes.on (fun t k => XS.aload X68.here hx rfl (hb hby at_77) rfl rfl k) ?_
    show Goes p e below QQ (T68.setTop (mkF m 79 #[iv p1, iv p2, iv p3, iv p4, rv b1, iv 1, iv p2, iv p3, rv b49, iv (flagV p2.toInt8.toInt32.toInt8.toInt32), iv 2, .unset, .unset] [(.ref b49)]))
    obtain ⟨cq70, kq70, q70a, q70b, q70c⟩ := isOf hZ e68 A49_64
    obtain ⟨_, _, ⟨T70, L70, k70, n70⟩, -, X70, ⟨Lc70, hQ70, l70, y70, z70⟩, st70⟩ := X68.virtualBack hx (y := (⟨"com/example/lendgate/lendgate/circulation/Decoder", "flag", "()Z"⟩ : MethodName)) (z := (⟨"com/example/lendgate/lendgate/circulation/Decoder", "flag", "()Z"⟩ : MethodName)) hown (mvT hZ (hw _ (List.mem_of_getElem? (i := 16) rfl))) (mvT hZ (hw _ (List.mem_of_getElem? (i := 17) rfl))) (notFace_of_selects (args := #[]) (mvT hZ (hw _ (List.mem_of_getElem? (i := 19) rfl)))) (mvT hZ (hw _ (List.mem_of_getElem? (i := 19) rfl))) (mvT hZ (hw _ (List.mem_of_getElem? (i := 18) rfl))) (by decide) (backOf (W := 0) (rm3 l Z a0 hw [] b49 b1 (2 : Int32) p3.toInt8.toInt32.toInt8.toInt32 k1 (3 : Int32) [(.int p1.toInt8.toInt32.toInt8.toInt32), (.int p2.toInt8.toInt32.toInt8.toInt32), (.int p3.toInt8.toInt32.toInt8.toInt32)] T62.heap n0 (Nat.le_trans Z0 K67.1) A49_64 Fb61 Fp61 V_63 g_b49 ne_b1_b49 ⟨by decide, by decide⟩ rfl) hZ (hw _ (List.mem_of_getElem? (i := 20) rfl)) (hw _ (List.mem_of_getElem? (i := 3) rfl)) (by decide) (by decide)) q70a q70c (g := (mkF m 79 #[iv p1, iv p2, iv p3, iv p4, rv b1, iv 1, iv p2, iv p3, rv b49, iv (flagV p2.toInt8.toInt32.toInt8.toInt32), iv 2, .unset, .unset] [(.ref b49)])) rfl (by rw [hml]; rfl) (Steps.refl _) (argsL := []) (rest := []) (lenOf pd_1 rfl) rfl (by show 2 * 0 + _ ≤ _; exact Nat.le_of_eq rfl) (hb hby at_79) (fun _ _ => ⟨rfl, e68, (by decide : 2 + 0 ≤ _), (by decide : 6 + 0 ≤ _)⟩)
    dsimp only [Pt.U, Pt.locs, Pt.cells, Pt.slots] at X70 l70 y70 z70 st70 hQ70
    subst l70 y70 z70
    obtain ⟨rfl, M70, Kc69, Fb69, Fp69⟩ := hQ70
    have N70 := Fr.app N68 M70
    refine Goes.on (fun t k => st70.trans k) ?_
    have V_71 := V_63.keep Kc69 (ninS ne_b1_b49 nin0)
    have A49_72 := A49_64.keep Kc69
    have K75 := K67.trans Kc69 (allS (Or.inr sz_b49) all0)
    show Goes p e below QQ (T70.setTop (mkF m 82 #[iv p1, iv p2, iv p3, iv p4, rv b1, iv 1, iv p2, iv p3, rv b49, iv (flagV p2.toInt8.toInt32.toInt8.toInt32), iv 2, .unset, .unset] [(.int (flagV p3.toInt8.toInt32.toInt8.toInt32))]))
    rw [(by decide : ((2 : Int32) + (1 : Int32)) = (3 : Int32))] at Fp69
    show Goes p e below QQ (T70.setTop (mkF m 82 #[iv p1, iv p2, iv p3, iv p4, rv b1, iv 1, iv p2, iv p3, rv b49, iv (flagV p2.toInt8.toInt32.toInt8.toInt32), iv 2, .unset, .unset] [(.int (flagV p3.toInt8.toInt32.toInt8.toInt32))]))
    refine Goes.on (fun t k => XS.istore X70.here hx rfl (hb hby at_82) rfl (l' := #[iv p1, iv p2, iv p3, iv p4, rv b1, iv 1, iv p2, iv p3, rv b49, iv (flagV p2.toInt8.toInt32.toInt8.toInt32), iv 2, iv (flagV p3.toInt8.toInt32.toInt8.toInt32), .unset]) rfl k) ?_
    show Goes p e below QQ (T70.setTop (mkF m 84 #[iv p1, iv p2, iv p3, iv p4, rv b1, iv 1, iv p2, iv p3, rv b49, iv (flagV p2.toInt8.toInt32.toInt8.toInt32), iv 2, iv (flagV p3.toInt8.toInt32.toInt8.toInt32), .unset] []))
    refine Goes.on (fun t k => XS.aload X70.here hx rfl (hb hby at_84) rfl rfl k) ?_
    show Goes p e below QQ (T70.setTop (mkF m 86 #[iv p1, iv p2, iv p3, iv p4, rv b1, iv 1, iv p2, iv p3, rv b49, iv (flagV p2.toInt8.toInt32.toInt8.toInt32), iv 2, iv (flagV p3.toInt8.toInt32.toInt8.toInt32), .unset] [(.ref b49)]))
    obtain ⟨cq76, kq76, q76a, q76b, q76c⟩ := isOf hZ rfl A49_72
    obtain ⟨_, _, ⟨T76, L76, k76, n76⟩, -, X76, ⟨Lc76, hQ76, l76, y76, z76⟩, st76⟩ := X70.virtualBack hx (y := (⟨"com/example/lendgate/lendgate/circulation/Decoder", "position", "()I"⟩ : MethodName)) (z := (⟨"com/example/lendgate/lendgate/circulation/Decoder", "position", "()I"⟩ : MethodName)) hown (mvT hZ (hw _ (List.mem_of_getElem? (i := 21) rfl))) (mvT hZ (hw _ (List.mem_of_getElem? (i := 22) rfl))) (notFace_of_selects (args := #[]) (mvT hZ (hw _ (List.mem_of_getElem? (i := 24) rfl)))) (mvT hZ (hw _ (List.mem_of_getElem? (i := 24) rfl))) (mvT hZ (hw _ (List.mem_of_getElem? (i := 23) rfl))) (by decide) (backOf (W := 0) (rm4 l Z a0 hw [] b49 (3 : Int32) T70.heap n0 (Nat.le_trans Z0 K75.1) Fp69) hZ (hw _ (List.mem_of_getElem? (i := 25) rfl)) (hw _ (List.mem_of_getElem? (i := 3) rfl)) (by decide) (by decide)) q76a q76c (g := (mkF m 86 #[iv p1, iv p2, iv p3, iv p4, rv b1, iv 1, iv p2, iv p3, rv b49, iv (flagV p2.toInt8.toInt32.toInt8.toInt32), iv 2, iv (flagV p3.toInt8.toInt32.toInt8.toInt32), .unset] [(.ref b49)])) rfl (by rw [hml]; rfl) (Steps.refl _) (argsL := []) (rest := []) (lenOf pd_2 rfl) rfl (by show 2 * 0 + _ ≤ _; exact Nat.le_of_eq rfl) (hb hby at_86) (fun _ _ => ⟨rfl, rfl, (by decide : 2 + 0 ≤ _), (by decide : 6 + 0 ≤ _)⟩)
    dsimp only [Pt.U, Pt.locs, Pt.cells, Pt.slots] at X76 l76 y76 z76 st76 hQ76
    subst l76 y76 z76
    obtain ⟨rfl, M76, e76⟩ := hQ76
    have N76 := Fr.app N70 M76
    refine Goes.on (fun t k => st76.trans k) ?_
    show Goes p e below QQ (T76.setTop (mkF m 89 #[iv p1, iv p2, iv p3, iv p4, rv b1, iv 1, iv p2, iv p3, rv b49, iv (flagV p2.toInt8.toInt32.toInt8.toInt32), iv 2, iv (flagV p3.toInt8.toInt32.toInt8.toInt32), .unset] [(.int 3)]))
    refine Goes.on (fun t k => XS.istore X76.here hx rfl (hb hby at_89) rfl (l' := #[iv p1, iv p2, iv p3, iv p4, rv b1, iv 1, iv p2, iv p3, rv b49, iv (flagV p2.toInt8.toInt32.toInt8.toInt32), iv 2, iv (flagV p3.toInt8.toInt32.toInt8.toInt32), iv 3]) rfl k) ?_
    show Goes p e below QQ (T76.setTop (mkF m 91 #[iv p1, iv p2, iv p3, iv p4, rv b1, iv 1, iv p2, iv p3, rv b49, iv (flagV p2.toInt8.toInt32.toInt8.toInt32), iv 2, iv (flagV p3.toInt8.toInt32.toInt8.toInt32), iv 3] []))
    refine Goes.on (fun t k => XS.iload X76.here hx rfl (hb hby at_91) rfl k) ?_
    show Goes p e below QQ (T76.setTop (mkF m 93 #[iv p1, iv p2, iv p3, iv p4, rv b1, iv 1, iv p2, iv p3, rv b49, iv (flagV p2.toInt8.toInt32.toInt8.toInt32), iv 2, iv (flagV p3.toInt8.toInt32.toInt8.toInt32), iv 3] [(.int (flagV p2.toInt8.toInt32.toInt8.toInt32))]))
    refine Goes.on (fun t k => XS.iload X76.here hx rfl (hb hby at_93) rfl k) ?_
    show Goes p e below QQ (T76.setTop (mkF m 95 #[iv p1, iv p2, iv p3, iv p4, rv b1, iv 1, iv p2, iv p3, rv b49, iv (flagV p2.toInt8.toInt32.toInt8.toInt32), iv 2, iv (flagV p3.toInt8.toInt32.toInt8.toInt32), iv 3] [(.int p2), (.int (flagV p2.toInt8.toInt32.toInt8.toInt32))]))
    refine Goes.on (fun t k => XS.sipush X76.here hx rfl (hb hby at_95) k) ?_
    show Goes p e below QQ (T76.setTop (mkF m 98 #[iv p1, iv p2, iv p3, iv p4, rv b1, iv 1, iv p2, iv p3, rv b49, iv (flagV p2.toInt8.toInt32.toInt8.toInt32), iv 2, iv (flagV p3.toInt8.toInt32.toInt8.toInt32), iv 3] [(.int 255), (.int p2), (.int (flagV p2.toInt8.toInt32.toInt8.toInt32))]))
    refine Goes.on (fun t k => XS.iand X76.here hx rfl (hb hby at_98) rfl k) ?_
    show Goes p e below QQ (T76.setTop (mkF m 99 #[iv p1, iv p2, iv p3, iv p4, rv b1, iv 1, iv p2, iv p3, rv b49, iv (flagV p2.toInt8.toInt32.toInt8.toInt32), iv 2, iv (flagV p3.toInt8.toInt32.toInt8.toInt32), iv 3] [(.int (p2 &&& (255 : Int32))), (.int (flagV p2.toInt8.toInt32.toInt8.toInt32))]))
    by_cases hb77 : (p2 &&& (255 : Int32)) = (0 : Int32)
    · refine Goes.on (fun t k => XS.ifYes X76.here hx rfl (pc0 := 99) (pc' := 106) rfl (hb hby at_99) rfl ((if0 _ _).trans (teq hb77).1) (by decide) (by decide) k) ?_
      show Goes p e below QQ (T76.setTop (mkF m 106 #[iv p1, iv p2, iv p3, iv p4, rv b1, iv 1, iv p2, iv p3, rv b49, iv (flagV p2.toInt8.toInt32.toInt8.toInt32), iv 2, iv (flagV p3.toInt8.toInt32.toInt8.toInt32), iv 3] [(.int (flagV p2.toInt8.toInt32.toInt8.toInt32))]))
      refine Goes.on (fun t k => XS.iconst X76.here hx rfl (hb hby at_106) k) ?_
      show Goes p e below QQ (T76.setTop (mkF m 107 #[iv p1, iv p2, iv p3, iv p4, rv b1, iv 1, iv p2, iv p3, rv b49, iv (flagV p2.toInt8.toInt32.toInt8.toInt32), iv 2, iv (flagV p3.toInt8.toInt32.toInt8.toInt32), iv 3] [(.int 0), (.int (flagV p2.toInt8.toInt32.toInt8.toInt32))]))
      by_cases hb78 : (flagV p2.toInt8.toInt32.toInt8.toInt32) = (0 : Int32)
      · refine Goes.on (fun t k => XS.icmpNo X76.here hx rfl (hb hby at_107) rfl (teq hb78).2 k) ?_
        show Goes p e below QQ (T76.setTop (mkF m 110 #[iv p1, iv p2, iv p3, iv p4, rv b1, iv 1, iv p2, iv p3, rv b49, iv (flagV p2.toInt8.toInt32.toInt8.toInt32), iv 2, iv (flagV p3.toInt8.toInt32.toInt8.toInt32), iv 3] []))
        refine Goes.on (fun t k => XS.iload X76.here hx rfl (hb hby at_110) rfl k) ?_
        show Goes p e below QQ (T76.setTop (mkF m 112 #[iv p1, iv p2, iv p3, iv p4, rv b1, iv 1, iv p2, iv p3, rv b49, iv (flagV p2.toInt8.toInt32.toInt8.toInt32), iv 2, iv (flagV p3.toInt8.toInt32.toInt8.toInt32), iv 3] [(.int 2)]))
        refine Goes.on (fun t k => XS.iload X76.here hx rfl (hb hby at_112) rfl k) ?_
        show Goes p e below QQ (T76.setTop (mkF m 114 #[iv p1, iv p2, iv p3, iv p4, rv b1, iv 1, iv p2, iv p3, rv b49, iv (flagV p2.toInt8.toInt32.toInt8.toInt32), iv 2, iv (flagV p3.toInt8.toInt32.toInt8.toInt32), iv 3] [(.int 1), (.int 2)]))
        refine Goes.on (fun t k => XS.iconst X76.here hx rfl (hb hby at_114) k) ?_
        show Goes p e below QQ (T76.setTop (mkF m 115 #[iv p1, iv p2, iv p3, iv p4, rv b1, iv 1, iv p2, iv p3, rv b49, iv (flagV p2.toInt8.toInt32.toInt8.toInt32), iv 2, iv (flagV p3.toInt8.toInt32.toInt8.toInt32), iv 3] [(.int 1), (.int 1), (.int 2)]))
        refine Goes.on (fun t k => XS.iadd X76.here hx rfl (hb hby at_115) rfl k) ?_
        show Goes p e below QQ (T76.setTop (mkF m 116 #[iv p1, iv p2, iv p3, iv p4, rv b1, iv 1, iv p2, iv p3, rv b49, iv (flagV p2.toInt8.toInt32.toInt8.toInt32), iv 2, iv (flagV p3.toInt8.toInt32.toInt8.toInt32), iv 3] [(.int ((1 : Int32) + (1 : Int32))), (.int 2)]))
        rw [(by decide : ((1 : Int32) + (1 : Int32)) = (2 : Int32))]
        show Goes p e below QQ (T76.setTop (mkF m 116 #[iv p1, iv p2, iv p3, iv p4, rv b1, iv 1, iv p2, iv p3, rv b49, iv (flagV p2.toInt8.toInt32.toInt8.toInt32), iv 2, iv (flagV p3.toInt8.toInt32.toInt8.toInt32), iv 3] [(.int 2), (.int 2)]))
        refine Goes.on (fun t k => XS.icmpNo X76.here hx rfl (hb hby at_116) rfl (teq (by decide)).2 k) ?_
        show Goes p e below QQ (T76.setTop (mkF m 119 #[iv p1, iv p2, iv p3, iv p4, rv b1, iv 1, iv p2, iv p3, rv b49, iv (flagV p2.toInt8.toInt32.toInt8.toInt32), iv 2, iv (flagV p3.toInt8.toInt32.toInt8.toInt32), iv 3] []))
        refine Goes.on (fun t k => XS.iload X76.here hx rfl (hb hby at_119) rfl k) ?_
        show Goes p e below QQ (T76.setTop (mkF m 121 #[iv p1, iv p2, iv p3, iv p4, rv b1, iv 1, iv p2, iv p3, rv b49, iv (flagV p2.toInt8.toInt32.toInt8.toInt32), iv 2, iv (flagV p3.toInt8.toInt32.toInt8.toInt32), iv 3] [(.int (flagV p3.toInt8.toInt32.toInt8.toInt32))]))
        refine Goes.on (fun t k => XS.iload X76.here hx rfl (hb hby at_121) rfl k) ?_
        show Goes p e below QQ (T76.setTop (mkF m 123 #[iv p1, iv p2, iv p3, iv p4, rv b1, iv 1, iv p2, iv p3, rv b49, iv (flagV p2.toInt8.toInt32.toInt8.toInt32), iv 2, iv (flagV p3.toInt8.toInt32.toInt8.toInt32), iv 3] [(.int p3), (.int (flagV p3.toInt8.toInt32.toInt8.toInt32))]))
        refine Goes.on (fun t k => XS.sipush X76.here hx rfl (hb hby at_123) k) ?_
        show Goes p e below QQ (T76.setTop (mkF m 126 #[iv p1, iv p2, iv p3, iv p4, rv b1, iv 1, iv p2, iv p3, rv b49, iv (flagV p2.toInt8.toInt32.toInt8.toInt32), iv 2, iv (flagV p3.toInt8.toInt32.toInt8.toInt32), iv 3] [(.int 255), (.int p3), (.int (flagV p3.toInt8.toInt32.toInt8.toInt32))]))
        refine Goes.on (fun t k => XS.iand X76.here hx rfl (hb hby at_126) rfl k) ?_
        show Goes p e below QQ (T76.setTop (mkF m 127 #[iv p1, iv p2, iv p3, iv p4, rv b1, iv 1, iv p2, iv p3, rv b49, iv (flagV p2.toInt8.toInt32.toInt8.toInt32), iv 2, iv (flagV p3.toInt8.toInt32.toInt8.toInt32), iv 3] [(.int (p3 &&& (255 : Int32))), (.int (flagV p3.toInt8.toInt32.toInt8.toInt32))]))
        by_cases hb79 : (p3 &&& (255 : Int32)) = (0 : Int32)
        · refine Goes.on (fun t k => XS.ifYes X76.here hx rfl (pc0 := 127) (pc' := 134) rfl (hb hby at_127) rfl ((if0 _ _).trans (teq hb79).1) (by decide) (by decide) k) ?_
          show Goes p e below QQ (T76.setTop (mkF m 134 #[iv p1, iv p2, iv p3, iv p4, rv b1, iv 1, iv p2, iv p3, rv b49, iv (flagV p2.toInt8.toInt32.toInt8.toInt32), iv 2, iv (flagV p3.toInt8.toInt32.toInt8.toInt32), iv 3] [(.int (flagV p3.toInt8.toInt32.toInt8.toInt32))]))
          refine Goes.on (fun t k => XS.iconst X76.here hx rfl (hb hby at_134) k) ?_
          show Goes p e below QQ (T76.setTop (mkF m 135 #[iv p1, iv p2, iv p3, iv p4, rv b1, iv 1, iv p2, iv p3, rv b49, iv (flagV p2.toInt8.toInt32.toInt8.toInt32), iv 2, iv (flagV p3.toInt8.toInt32.toInt8.toInt32), iv 3] [(.int 0), (.int (flagV p3.toInt8.toInt32.toInt8.toInt32))]))
          by_cases hb80 : (flagV p3.toInt8.toInt32.toInt8.toInt32) = (0 : Int32)
          · refine Goes.on (fun t k => XS.icmpNo X76.here hx rfl (hb hby at_135) rfl (teq hb80).2 k) ?_
            show Goes p e below QQ (T76.setTop (mkF m 138 #[iv p1, iv p2, iv p3, iv p4, rv b1, iv 1, iv p2, iv p3, rv b49, iv (flagV p2.toInt8.toInt32.toInt8.toInt32), iv 2, iv (flagV p3.toInt8.toInt32.toInt8.toInt32), iv 3] []))
            refine Goes.on (fun t k => XS.iload X76.here hx rfl (hb hby at_138) rfl k) ?_
            show Goes p e below QQ (T76.setTop (mkF m 140 #[iv p1, iv p2, iv p3, iv p4, rv b1, iv 1, iv p2, iv p3, rv b49, iv (flagV p2.toInt8.toInt32.toInt8.toInt32), iv 2, iv (flagV p3.toInt8.toInt32.toInt8.toInt32), iv 3] [(.int 3)]))
            refine Goes.on (fun t k => XS.iload X76.here hx rfl (hb hby at_140) rfl k) ?_
            show Goes p e below QQ (T76.setTop (mkF m 142 #[iv p1, iv p2, iv p3, iv p4, rv b1, iv 1, iv p2, iv p3, rv b49, iv (flagV p2.toInt8.toInt32.toInt8.toInt32), iv 2, iv (flagV p3.toInt8.toInt32.toInt8.toInt32), iv 3] [(.int 1), (.int 3)]))
            refine Goes.on (fun t k => XS.iconst X76.here hx rfl (hb hby at_142) k) ?_
            show Goes p e below QQ (T76.setTop (mkF m 143 #[iv p1, iv p2, iv p3, iv p4, rv b1, iv 1, iv p2, iv p3, rv b49, iv (flagV p2.toInt8.toInt32.toInt8.toInt32), iv 2, iv (flagV p3.toInt8.toInt32.toInt8.toInt32), iv 3] [(.int 2), (.int 1), (.int 3)]))
            refine Goes.on (fun t k => XS.iadd X76.here hx rfl (hb hby at_143) rfl k) ?_
            show Goes p e below QQ (T76.setTop (mkF m 144 #[iv p1, iv p2, iv p3, iv p4, rv b1, iv 1, iv p2, iv p3, rv b49, iv (flagV p2.toInt8.toInt32.toInt8.toInt32), iv 2, iv (flagV p3.toInt8.toInt32.toInt8.toInt32), iv 3] [(.int ((1 : Int32) + (2 : Int32))), (.int 3)]))
            rw [(by decide : ((1 : Int32) + (2 : Int32)) = (3 : Int32))]
            show Goes p e below QQ (T76.setTop (mkF m 144 #[iv p1, iv p2, iv p3, iv p4, rv b1, iv 1, iv p2, iv p3, rv b49, iv (flagV p2.toInt8.toInt32.toInt8.toInt32), iv 2, iv (flagV p3.toInt8.toInt32.toInt8.toInt32), iv 3] [(.int 3), (.int 3)]))
            refine Goes.on (fun t k => XS.icmpNo X76.here hx rfl (hb hby at_144) rfl (teq (by decide)).2 k) ?_
            show Goes p e below QQ (T76.setTop (mkF m 147 #[iv p1, iv p2, iv p3, iv p4, rv b1, iv 1, iv p2, iv p3, rv b49, iv (flagV p2.toInt8.toInt32.toInt8.toInt32), iv 2, iv (flagV p3.toInt8.toInt32.toInt8.toInt32), iv 3] []))
            refine Goes.on (fun t k => XS.iconst X76.here hx rfl (hb hby at_147) k) ?_
            show Goes p e below QQ (T76.setTop (mkF m 148 #[iv p1, iv p2, iv p3, iv p4, rv b1, iv 1, iv p2, iv p3, rv b49, iv (flagV p2.toInt8.toInt32.toInt8.toInt32), iv 2, iv (flagV p3.toInt8.toInt32.toInt8.toInt32), iv 3] [(.int 1)]))
            refine Goes.on (fun t k => XS.goto X76.here hx rfl (pc0 := 148) (pc' := 152) rfl (hb hby at_148) (by decide) (by decide) k) ?_
            show Goes p e below QQ (T76.setTop (mkF m 152 #[iv p1, iv p2, iv p3, iv p4, rv b1, iv 1, iv p2, iv p3, rv b49, iv (flagV p2.toInt8.toInt32.toInt8.toInt32), iv 2, iv (flagV p3.toInt8.toInt32.toInt8.toInt32), iv 3] [(.int 1)]))
            exact Goes.rN X76 hx (t := .boolean) hret (by simp) hlk (hb hby at_152) hQQ ⟨rfl, N76⟩ (by decide) (by decide)
          · refine Goes.on (fun t k => XS.icmpYes X76.here hx rfl (pc0 := 135) (pc' := 151) rfl (hb hby at_135) rfl (feq hb80).2 (by decide) (by decide) k) ?_
            show Goes p e below QQ (T76.setTop (mkF m 151 #[iv p1, iv p2, iv p3, iv p4, rv b1, iv 1, iv p2, iv p3, rv b49, iv (flagV p2.toInt8.toInt32.toInt8.toInt32), iv 2, iv (flagV p3.toInt8.toInt32.toInt8.toInt32), iv 3] []))
            refine Goes.on (fun t k => XS.iconst X76.here hx rfl (hb hby at_151) k) ?_
            show Goes p e below QQ (T76.setTop (mkF m 152 #[iv p1, iv p2, iv p3, iv p4, rv b1, iv 1, iv p2, iv p3, rv b49, iv (flagV p2.toInt8.toInt32.toInt8.toInt32), iv 2, iv (flagV p3.toInt8.toInt32.toInt8.toInt32), iv 3] [(.int 0)]))
            exact absurd ((((if_neg hst).trans ((if_pos hb77).trans ((if_pos hb78).trans ((if_pos hb79).trans ((if_neg hb80).trans rfl))))) : lawF p1 p2 p3 p4 = (0 : Int32)).symm.trans (lawT p1 p2 p3 p4)) (by decide)
        · refine Goes.on (fun t k => XS.ifNo X76.here hx rfl (hb hby at_127) rfl ((if0 _ _).trans (feq hb79).1) k) ?_
          show Goes p e below QQ (T76.setTop (mkF m 130 #[iv p1, iv p2, iv p3, iv p4, rv b1, iv 1, iv p2, iv p3, rv b49, iv (flagV p2.toInt8.toInt32.toInt8.toInt32), iv 2, iv (flagV p3.toInt8.toInt32.toInt8.toInt32), iv 3] [(.int (flagV p3.toInt8.toInt32.toInt8.toInt32))]))
          refine Goes.on (fun t k => XS.iconst X76.here hx rfl (hb hby at_130) k) ?_
          show Goes p e below QQ (T76.setTop (mkF m 131 #[iv p1, iv p2, iv p3, iv p4, rv b1, iv 1, iv p2, iv p3, rv b49, iv (flagV p2.toInt8.toInt32.toInt8.toInt32), iv 2, iv (flagV p3.toInt8.toInt32.toInt8.toInt32), iv 3] [(.int 1), (.int (flagV p3.toInt8.toInt32.toInt8.toInt32))]))
          refine Goes.on (fun t k => XS.goto X76.here hx rfl (pc0 := 131) (pc' := 135) rfl (hb hby at_131) (by decide) (by decide) k) ?_
          show Goes p e below QQ (T76.setTop (mkF m 135 #[iv p1, iv p2, iv p3, iv p4, rv b1, iv 1, iv p2, iv p3, rv b49, iv (flagV p2.toInt8.toInt32.toInt8.toInt32), iv 2, iv (flagV p3.toInt8.toInt32.toInt8.toInt32), iv 3] [(.int 1), (.int (flagV p3.toInt8.toInt32.toInt8.toInt32))]))
          by_cases hb81 : (flagV p3.toInt8.toInt32.toInt8.toInt32) = (1 : Int32)
          · refine Goes.on (fun t k => XS.icmpNo X76.here hx rfl (hb hby at_135) rfl (teq hb81).2 k) ?_
            show Goes p e below QQ (T76.setTop (mkF m 138 #[iv p1, iv p2, iv p3, iv p4, rv b1, iv 1, iv p2, iv p3, rv b49, iv (flagV p2.toInt8.toInt32.toInt8.toInt32), iv 2, iv (flagV p3.toInt8.toInt32.toInt8.toInt32), iv 3] []))
            refine Goes.on (fun t k => XS.iload X76.here hx rfl (hb hby at_138) rfl k) ?_
            show Goes p e below QQ (T76.setTop (mkF m 140 #[iv p1, iv p2, iv p3, iv p4, rv b1, iv 1, iv p2, iv p3, rv b49, iv (flagV p2.toInt8.toInt32.toInt8.toInt32), iv 2, iv (flagV p3.toInt8.toInt32.toInt8.toInt32), iv 3] [(.int 3)]))
            refine Goes.on (fun t k => XS.iload X76.here hx rfl (hb hby at_140) rfl k) ?_
            show Goes p e below QQ (T76.setTop (mkF m 142 #[iv p1, iv p2, iv p3, iv p4, rv b1, iv 1, iv p2, iv p3, rv b49, iv (flagV p2.toInt8.toInt32.toInt8.toInt32), iv 2, iv (flagV p3.toInt8.toInt32.toInt8.toInt32), iv 3] [(.int 1), (.int 3)]))
            refine Goes.on (fun t k => XS.iconst X76.here hx rfl (hb hby at_142) k) ?_
            show Goes p e below QQ (T76.setTop (mkF m 143 #[iv p1, iv p2, iv p3, iv p4, rv b1, iv 1, iv p2, iv p3, rv b49, iv (flagV p2.toInt8.toInt32.toInt8.toInt32), iv 2, iv (flagV p3.toInt8.toInt32.toInt8.toInt32), iv 3] [(.int 2), (.int 1), (.int 3)]))
            refine Goes.on (fun t k => XS.iadd X76.here hx rfl (hb hby at_143) rfl k) ?_
            show Goes p e below QQ (T76.setTop (mkF m 144 #[iv p1, iv p2, iv p3, iv p4, rv b1, iv 1, iv p2, iv p3, rv b49, iv (flagV p2.toInt8.toInt32.toInt8.toInt32), iv 2, iv (flagV p3.toInt8.toInt32.toInt8.toInt32), iv 3] [(.int ((1 : Int32) + (2 : Int32))), (.int 3)]))
            rw [(by decide : ((1 : Int32) + (2 : Int32)) = (3 : Int32))]
            show Goes p e below QQ (T76.setTop (mkF m 144 #[iv p1, iv p2, iv p3, iv p4, rv b1, iv 1, iv p2, iv p3, rv b49, iv (flagV p2.toInt8.toInt32.toInt8.toInt32), iv 2, iv (flagV p3.toInt8.toInt32.toInt8.toInt32), iv 3] [(.int 3), (.int 3)]))
            refine Goes.on (fun t k => XS.icmpNo X76.here hx rfl (hb hby at_144) rfl (teq (by decide)).2 k) ?_
            show Goes p e below QQ (T76.setTop (mkF m 147 #[iv p1, iv p2, iv p3, iv p4, rv b1, iv 1, iv p2, iv p3, rv b49, iv (flagV p2.toInt8.toInt32.toInt8.toInt32), iv 2, iv (flagV p3.toInt8.toInt32.toInt8.toInt32), iv 3] []))
            refine Goes.on (fun t k => XS.iconst X76.here hx rfl (hb hby at_147) k) ?_
            show Goes p e below QQ (T76.setTop (mkF m 148 #[iv p1, iv p2, iv p3, iv p4, rv b1, iv 1, iv p2, iv p3, rv b49, iv (flagV p2.toInt8.toInt32.toInt8.toInt32), iv 2, iv (flagV p3.toInt8.toInt32.toInt8.toInt32), iv 3] [(.int 1)]))
            refine Goes.on (fun t k => XS.goto X76.here hx rfl (pc0 := 148) (pc' := 152) rfl (hb hby at_148) (by decide) (by decide) k) ?_
            show Goes p e below QQ (T76.setTop (mkF m 152 #[iv p1, iv p2, iv p3, iv p4, rv b1, iv 1, iv p2, iv p3, rv b49, iv (flagV p2.toInt8.toInt32.toInt8.toInt32), iv 2, iv (flagV p3.toInt8.toInt32.toInt8.toInt32), iv 3] [(.int 1)]))
            exact Goes.rN X76 hx (t := .boolean) hret (by simp) hlk (hb hby at_152) hQQ ⟨rfl, N76⟩ (by decide) (by decide)
          · refine Goes.on (fun t k => XS.icmpYes X76.here hx rfl (pc0 := 135) (pc' := 151) rfl (hb hby at_135) rfl (feq hb81).2 (by decide) (by decide) k) ?_
            show Goes p e below QQ (T76.setTop (mkF m 151 #[iv p1, iv p2, iv p3, iv p4, rv b1, iv 1, iv p2, iv p3, rv b49, iv (flagV p2.toInt8.toInt32.toInt8.toInt32), iv 2, iv (flagV p3.toInt8.toInt32.toInt8.toInt32), iv 3] []))
            refine Goes.on (fun t k => XS.iconst X76.here hx rfl (hb hby at_151) k) ?_
            show Goes p e below QQ (T76.setTop (mkF m 152 #[iv p1, iv p2, iv p3, iv p4, rv b1, iv 1, iv p2, iv p3, rv b49, iv (flagV p2.toInt8.toInt32.toInt8.toInt32), iv 2, iv (flagV p3.toInt8.toInt32.toInt8.toInt32), iv 3] [(.int 0)]))
            exact absurd ((((if_neg hst).trans ((if_pos hb77).trans ((if_pos hb78).trans ((if_neg hb79).trans ((if_neg hb81).trans rfl))))) : lawF p1 p2 p3 p4 = (0 : Int32)).symm.trans (lawT p1 p2 p3 p4)) (by decide)
      · refine Goes.on (fun t k => XS.icmpYes X76.here hx rfl (pc0 := 107) (pc' := 151) rfl (hb hby at_107) rfl (feq hb78).2 (by decide) (by decide) k) ?_
        show Goes p e below QQ (T76.setTop (mkF m 151 #[iv p1, iv p2, iv p3, iv p4, rv b1, iv 1, iv p2, iv p3, rv b49, iv (flagV p2.toInt8.toInt32.toInt8.toInt32), iv 2, iv (flagV p3.toInt8.toInt32.toInt8.toInt32), iv 3] []))
        refine Goes.on (fun t k => XS.iconst X76.here hx rfl (hb hby at_151) k) ?_
        show Goes p e below QQ (T76.setTop (mkF m 152 #[iv p1, iv p2, iv p3, iv p4, rv b1, iv 1, iv p2, iv p3, rv b49, iv (flagV p2.toInt8.toInt32.toInt8.toInt32), iv 2, iv (flagV p3.toInt8.toInt32.toInt8.toInt32), iv 3] [(.int 0)]))
        exact absurd ((((if_neg hst).trans ((if_pos hb77).trans ((if_neg hb78).trans rfl))) : lawF p1 p2 p3 p4 = (0 : Int32)).symm.trans (lawT p1 p2 p3 p4)) (by decide)
    · refine Goes.on (fun t k => XS.ifNo X76.here hx rfl (hb hby at_99) rfl ((if0 _ _).trans (feq hb77).1) k) ?_
      show Goes p e below QQ (T76.setTop (mkF m 102 #[iv p1, iv p2, iv p3, iv p4, rv b1, iv 1, iv p2, iv p3, rv b49, iv (flagV p2.toInt8.toInt32.toInt8.toInt32), iv 2, iv (flagV p3.toInt8.toInt32.toInt8.toInt32), iv 3] [(.int (flagV p2.toInt8.toInt32.toInt8.toInt32))]))
      refine Goes.on (fun t k => XS.iconst X76.here hx rfl (hb hby at_102) k) ?_
      show Goes p e below QQ (T76.setTop (mkF m 103 #[iv p1, iv p2, iv p3, iv p4, rv b1, iv 1, iv p2, iv p3, rv b49, iv (flagV p2.toInt8.toInt32.toInt8.toInt32), iv 2, iv (flagV p3.toInt8.toInt32.toInt8.toInt32), iv 3] [(.int 1), (.int (flagV p2.toInt8.toInt32.toInt8.toInt32))]))
      refine Goes.on (fun t k => XS.goto X76.here hx rfl (pc0 := 103) (pc' := 107) rfl (hb hby at_103) (by decide) (by decide) k) ?_
      show Goes p e below QQ (T76.setTop (mkF m 107 #[iv p1, iv p2, iv p3, iv p4, rv b1, iv 1, iv p2, iv p3, rv b49, iv (flagV p2.toInt8.toInt32.toInt8.toInt32), iv 2, iv (flagV p3.toInt8.toInt32.toInt8.toInt32), iv 3] [(.int 1), (.int (flagV p2.toInt8.toInt32.toInt8.toInt32))]))
      by_cases hb82 : (flagV p2.toInt8.toInt32.toInt8.toInt32) = (1 : Int32)
      · refine Goes.on (fun t k => XS.icmpNo X76.here hx rfl (hb hby at_107) rfl (teq hb82).2 k) ?_
        show Goes p e below QQ (T76.setTop (mkF m 110 #[iv p1, iv p2, iv p3, iv p4, rv b1, iv 1, iv p2, iv p3, rv b49, iv (flagV p2.toInt8.toInt32.toInt8.toInt32), iv 2, iv (flagV p3.toInt8.toInt32.toInt8.toInt32), iv 3] []))
        refine Goes.on (fun t k => XS.iload X76.here hx rfl (hb hby at_110) rfl k) ?_
        show Goes p e below QQ (T76.setTop (mkF m 112 #[iv p1, iv p2, iv p3, iv p4, rv b1, iv 1, iv p2, iv p3, rv b49, iv (flagV p2.toInt8.toInt32.toInt8.toInt32), iv 2, iv (flagV p3.toInt8.toInt32.toInt8.toInt32), iv 3] [(.int 2)]))
        refine Goes.on (fun t k => XS.iload X76.here hx rfl (hb hby at_112) rfl k) ?_
        show Goes p e below QQ (T76.setTop (mkF m 114 #[iv p1, iv p2, iv p3, iv p4, rv b1, iv 1, iv p2, iv p3, rv b49, iv (flagV p2.toInt8.toInt32.toInt8.toInt32), iv 2, iv (flagV p3.toInt8.toInt32.toInt8.toInt32), iv 3] [(.int 1), (.int 2)]))
        refine Goes.on (fun t k => XS.iconst X76.here hx rfl (hb hby at_114) k) ?_
        show Goes p e below QQ (T76.setTop (mkF m 115 #[iv p1, iv p2, iv p3, iv p4, rv b1, iv 1, iv p2, iv p3, rv b49, iv (flagV p2.toInt8.toInt32.toInt8.toInt32), iv 2, iv (flagV p3.toInt8.toInt32.toInt8.toInt32), iv 3] [(.int 1), (.int 1), (.int 2)]))
        refine Goes.on (fun t k => XS.iadd X76.here hx rfl (hb hby at_115) rfl k) ?_
        show Goes p e below QQ (T76.setTop (mkF m 116 #[iv p1, iv p2, iv p3, iv p4, rv b1, iv 1, iv p2, iv p3, rv b49, iv (flagV p2.toInt8.toInt32.toInt8.toInt32), iv 2, iv (flagV p3.toInt8.toInt32.toInt8.toInt32), iv 3] [(.int ((1 : Int32) + (1 : Int32))), (.int 2)]))
        rw [(by decide : ((1 : Int32) + (1 : Int32)) = (2 : Int32))]
        show Goes p e below QQ (T76.setTop (mkF m 116 #[iv p1, iv p2, iv p3, iv p4, rv b1, iv 1, iv p2, iv p3, rv b49, iv (flagV p2.toInt8.toInt32.toInt8.toInt32), iv 2, iv (flagV p3.toInt8.toInt32.toInt8.toInt32), iv 3] [(.int 2), (.int 2)]))
        refine Goes.on (fun t k => XS.icmpNo X76.here hx rfl (hb hby at_116) rfl (teq (by decide)).2 k) ?_
        show Goes p e below QQ (T76.setTop (mkF m 119 #[iv p1, iv p2, iv p3, iv p4, rv b1, iv 1, iv p2, iv p3, rv b49, iv (flagV p2.toInt8.toInt32.toInt8.toInt32), iv 2, iv (flagV p3.toInt8.toInt32.toInt8.toInt32), iv 3] []))
        refine Goes.on (fun t k => XS.iload X76.here hx rfl (hb hby at_119) rfl k) ?_
        show Goes p e below QQ (T76.setTop (mkF m 121 #[iv p1, iv p2, iv p3, iv p4, rv b1, iv 1, iv p2, iv p3, rv b49, iv (flagV p2.toInt8.toInt32.toInt8.toInt32), iv 2, iv (flagV p3.toInt8.toInt32.toInt8.toInt32), iv 3] [(.int (flagV p3.toInt8.toInt32.toInt8.toInt32))]))
        refine Goes.on (fun t k => XS.iload X76.here hx rfl (hb hby at_121) rfl k) ?_
        show Goes p e below QQ (T76.setTop (mkF m 123 #[iv p1, iv p2, iv p3, iv p4, rv b1, iv 1, iv p2, iv p3, rv b49, iv (flagV p2.toInt8.toInt32.toInt8.toInt32), iv 2, iv (flagV p3.toInt8.toInt32.toInt8.toInt32), iv 3] [(.int p3), (.int (flagV p3.toInt8.toInt32.toInt8.toInt32))]))
        refine Goes.on (fun t k => XS.sipush X76.here hx rfl (hb hby at_123) k) ?_
        show Goes p e below QQ (T76.setTop (mkF m 126 #[iv p1, iv p2, iv p3, iv p4, rv b1, iv 1, iv p2, iv p3, rv b49, iv (flagV p2.toInt8.toInt32.toInt8.toInt32), iv 2, iv (flagV p3.toInt8.toInt32.toInt8.toInt32), iv 3] [(.int 255), (.int p3), (.int (flagV p3.toInt8.toInt32.toInt8.toInt32))]))
        refine Goes.on (fun t k => XS.iand X76.here hx rfl (hb hby at_126) rfl k) ?_
        show Goes p e below QQ (T76.setTop (mkF m 127 #[iv p1, iv p2, iv p3, iv p4, rv b1, iv 1, iv p2, iv p3, rv b49, iv (flagV p2.toInt8.toInt32.toInt8.toInt32), iv 2, iv (flagV p3.toInt8.toInt32.toInt8.toInt32), iv 3] [(.int (p3 &&& (255 : Int32))), (.int (flagV p3.toInt8.toInt32.toInt8.toInt32))]))
        by_cases hb83 : (p3 &&& (255 : Int32)) = (0 : Int32)
        · refine Goes.on (fun t k => XS.ifYes X76.here hx rfl (pc0 := 127) (pc' := 134) rfl (hb hby at_127) rfl ((if0 _ _).trans (teq hb83).1) (by decide) (by decide) k) ?_
          show Goes p e below QQ (T76.setTop (mkF m 134 #[iv p1, iv p2, iv p3, iv p4, rv b1, iv 1, iv p2, iv p3, rv b49, iv (flagV p2.toInt8.toInt32.toInt8.toInt32), iv 2, iv (flagV p3.toInt8.toInt32.toInt8.toInt32), iv 3] [(.int (flagV p3.toInt8.toInt32.toInt8.toInt32))]))
          refine Goes.on (fun t k => XS.iconst X76.here hx rfl (hb hby at_134) k) ?_
          show Goes p e below QQ (T76.setTop (mkF m 135 #[iv p1, iv p2, iv p3, iv p4, rv b1, iv 1, iv p2, iv p3, rv b49, iv (flagV p2.toInt8.toInt32.toInt8.toInt32), iv 2, iv (flagV p3.toInt8.toInt32.toInt8.toInt32), iv 3] [(.int 0), (.int (flagV p3.toInt8.toInt32.toInt8.toInt32))]))
          by_cases hb84 : (flagV p3.toInt8.toInt32.toInt8.toInt32) = (0 : Int32)
          · refine Goes.on (fun t k => XS.icmpNo X76.here hx rfl (hb hby at_135) rfl (teq hb84).2 k) ?_
            show Goes p e below QQ (T76.setTop (mkF m 138 #[iv p1, iv p2, iv p3, iv p4, rv b1, iv 1, iv p2, iv p3, rv b49, iv (flagV p2.toInt8.toInt32.toInt8.toInt32), iv 2, iv (flagV p3.toInt8.toInt32.toInt8.toInt32), iv 3] []))
            refine Goes.on (fun t k => XS.iload X76.here hx rfl (hb hby at_138) rfl k) ?_
            show Goes p e below QQ (T76.setTop (mkF m 140 #[iv p1, iv p2, iv p3, iv p4, rv b1, iv 1, iv p2, iv p3, rv b49, iv (flagV p2.toInt8.toInt32.toInt8.toInt32), iv 2, iv (flagV p3.toInt8.toInt32.toInt8.toInt32), iv 3] [(.int 3)]))
            refine Goes.on (fun t k => XS.iload X76.here hx rfl (hb hby at_140) rfl k) ?_
            show Goes p e below QQ (T76.setTop (mkF m 142 #[iv p1, iv p2, iv p3, iv p4, rv b1, iv 1, iv p2, iv p3, rv b49, iv (flagV p2.toInt8.toInt32.toInt8.toInt32), iv 2, iv (flagV p3.toInt8.toInt32.toInt8.toInt32), iv 3] [(.int 1), (.int 3)]))
            refine Goes.on (fun t k => XS.iconst X76.here hx rfl (hb hby at_142) k) ?_
            show Goes p e below QQ (T76.setTop (mkF m 143 #[iv p1, iv p2, iv p3, iv p4, rv b1, iv 1, iv p2, iv p3, rv b49, iv (flagV p2.toInt8.toInt32.toInt8.toInt32), iv 2, iv (flagV p3.toInt8.toInt32.toInt8.toInt32), iv 3] [(.int 2), (.int 1), (.int 3)]))
            refine Goes.on (fun t k => XS.iadd X76.here hx rfl (hb hby at_143) rfl k) ?_
            show Goes p e below QQ (T76.setTop (mkF m 144 #[iv p1, iv p2, iv p3, iv p4, rv b1, iv 1, iv p2, iv p3, rv b49, iv (flagV p2.toInt8.toInt32.toInt8.toInt32), iv 2, iv (flagV p3.toInt8.toInt32.toInt8.toInt32), iv 3] [(.int ((1 : Int32) + (2 : Int32))), (.int 3)]))
            rw [(by decide : ((1 : Int32) + (2 : Int32)) = (3 : Int32))]
            show Goes p e below QQ (T76.setTop (mkF m 144 #[iv p1, iv p2, iv p3, iv p4, rv b1, iv 1, iv p2, iv p3, rv b49, iv (flagV p2.toInt8.toInt32.toInt8.toInt32), iv 2, iv (flagV p3.toInt8.toInt32.toInt8.toInt32), iv 3] [(.int 3), (.int 3)]))
            refine Goes.on (fun t k => XS.icmpNo X76.here hx rfl (hb hby at_144) rfl (teq (by decide)).2 k) ?_
            show Goes p e below QQ (T76.setTop (mkF m 147 #[iv p1, iv p2, iv p3, iv p4, rv b1, iv 1, iv p2, iv p3, rv b49, iv (flagV p2.toInt8.toInt32.toInt8.toInt32), iv 2, iv (flagV p3.toInt8.toInt32.toInt8.toInt32), iv 3] []))
            refine Goes.on (fun t k => XS.iconst X76.here hx rfl (hb hby at_147) k) ?_
            show Goes p e below QQ (T76.setTop (mkF m 148 #[iv p1, iv p2, iv p3, iv p4, rv b1, iv 1, iv p2, iv p3, rv b49, iv (flagV p2.toInt8.toInt32.toInt8.toInt32), iv 2, iv (flagV p3.toInt8.toInt32.toInt8.toInt32), iv 3] [(.int 1)]))
            refine Goes.on (fun t k => XS.goto X76.here hx rfl (pc0 := 148) (pc' := 152) rfl (hb hby at_148) (by decide) (by decide) k) ?_
            show Goes p e below QQ (T76.setTop (mkF m 152 #[iv p1, iv p2, iv p3, iv p4, rv b1, iv 1, iv p2, iv p3, rv b49, iv (flagV p2.toInt8.toInt32.toInt8.toInt32), iv 2, iv (flagV p3.toInt8.toInt32.toInt8.toInt32), iv 3] [(.int 1)]))
            exact Goes.rN X76 hx (t := .boolean) hret (by simp) hlk (hb hby at_152) hQQ ⟨rfl, N76⟩ (by decide) (by decide)
          · refine Goes.on (fun t k => XS.icmpYes X76.here hx rfl (pc0 := 135) (pc' := 151) rfl (hb hby at_135) rfl (feq hb84).2 (by decide) (by decide) k) ?_
            show Goes p e below QQ (T76.setTop (mkF m 151 #[iv p1, iv p2, iv p3, iv p4, rv b1, iv 1, iv p2, iv p3, rv b49, iv (flagV p2.toInt8.toInt32.toInt8.toInt32), iv 2, iv (flagV p3.toInt8.toInt32.toInt8.toInt32), iv 3] []))
            refine Goes.on (fun t k => XS.iconst X76.here hx rfl (hb hby at_151) k) ?_
            show Goes p e below QQ (T76.setTop (mkF m 152 #[iv p1, iv p2, iv p3, iv p4, rv b1, iv 1, iv p2, iv p3, rv b49, iv (flagV p2.toInt8.toInt32.toInt8.toInt32), iv 2, iv (flagV p3.toInt8.toInt32.toInt8.toInt32), iv 3] [(.int 0)]))
            exact absurd ((((if_neg hst).trans ((if_neg hb77).trans ((if_pos hb82).trans ((if_pos hb83).trans ((if_neg hb84).trans rfl))))) : lawF p1 p2 p3 p4 = (0 : Int32)).symm.trans (lawT p1 p2 p3 p4)) (by decide)
        · refine Goes.on (fun t k => XS.ifNo X76.here hx rfl (hb hby at_127) rfl ((if0 _ _).trans (feq hb83).1) k) ?_
          show Goes p e below QQ (T76.setTop (mkF m 130 #[iv p1, iv p2, iv p3, iv p4, rv b1, iv 1, iv p2, iv p3, rv b49, iv (flagV p2.toInt8.toInt32.toInt8.toInt32), iv 2, iv (flagV p3.toInt8.toInt32.toInt8.toInt32), iv 3] [(.int (flagV p3.toInt8.toInt32.toInt8.toInt32))]))
          refine Goes.on (fun t k => XS.iconst X76.here hx rfl (hb hby at_130) k) ?_
          show Goes p e below QQ (T76.setTop (mkF m 131 #[iv p1, iv p2, iv p3, iv p4, rv b1, iv 1, iv p2, iv p3, rv b49, iv (flagV p2.toInt8.toInt32.toInt8.toInt32), iv 2, iv (flagV p3.toInt8.toInt32.toInt8.toInt32), iv 3] [(.int 1), (.int (flagV p3.toInt8.toInt32.toInt8.toInt32))]))
          refine Goes.on (fun t k => XS.goto X76.here hx rfl (pc0 := 131) (pc' := 135) rfl (hb hby at_131) (by decide) (by decide) k) ?_
          show Goes p e below QQ (T76.setTop (mkF m 135 #[iv p1, iv p2, iv p3, iv p4, rv b1, iv 1, iv p2, iv p3, rv b49, iv (flagV p2.toInt8.toInt32.toInt8.toInt32), iv 2, iv (flagV p3.toInt8.toInt32.toInt8.toInt32), iv 3] [(.int 1), (.int (flagV p3.toInt8.toInt32.toInt8.toInt32))]))
          by_cases hb85 : (flagV p3.toInt8.toInt32.toInt8.toInt32) = (1 : Int32)
          · refine Goes.on (fun t k => XS.icmpNo X76.here hx rfl (hb hby at_135) rfl (teq hb85).2 k) ?_
            show Goes p e below QQ (T76.setTop (mkF m 138 #[iv p1, iv p2, iv p3, iv p4, rv b1, iv 1, iv p2, iv p3, rv b49, iv (flagV p2.toInt8.toInt32.toInt8.toInt32), iv 2, iv (flagV p3.toInt8.toInt32.toInt8.toInt32), iv 3] []))
            refine Goes.on (fun t k => XS.iload X76.here hx rfl (hb hby at_138) rfl k) ?_
            show Goes p e below QQ (T76.setTop (mkF m 140 #[iv p1, iv p2, iv p3, iv p4, rv b1, iv 1, iv p2, iv p3, rv b49, iv (flagV p2.toInt8.toInt32.toInt8.toInt32), iv 2, iv (flagV p3.toInt8.toInt32.toInt8.toInt32), iv 3] [(.int 3)]))
            refine Goes.on (fun t k => XS.iload X76.here hx rfl (hb hby at_140) rfl k) ?_
            show Goes p e below QQ (T76.setTop (mkF m 142 #[iv p1, iv p2, iv p3, iv p4, rv b1, iv 1, iv p2, iv p3, rv b49, iv (flagV p2.toInt8.toInt32.toInt8.toInt32), iv 2, iv (flagV p3.toInt8.toInt32.toInt8.toInt32), iv 3] [(.int 1), (.int 3)]))
            refine Goes.on (fun t k => XS.iconst X76.here hx rfl (hb hby at_142) k) ?_
            show Goes p e below QQ (T76.setTop (mkF m 143 #[iv p1, iv p2, iv p3, iv p4, rv b1, iv 1, iv p2, iv p3, rv b49, iv (flagV p2.toInt8.toInt32.toInt8.toInt32), iv 2, iv (flagV p3.toInt8.toInt32.toInt8.toInt32), iv 3] [(.int 2), (.int 1), (.int 3)]))
            refine Goes.on (fun t k => XS.iadd X76.here hx rfl (hb hby at_143) rfl k) ?_
            show Goes p e below QQ (T76.setTop (mkF m 144 #[iv p1, iv p2, iv p3, iv p4, rv b1, iv 1, iv p2, iv p3, rv b49, iv (flagV p2.toInt8.toInt32.toInt8.toInt32), iv 2, iv (flagV p3.toInt8.toInt32.toInt8.toInt32), iv 3] [(.int ((1 : Int32) + (2 : Int32))), (.int 3)]))
            rw [(by decide : ((1 : Int32) + (2 : Int32)) = (3 : Int32))]
            show Goes p e below QQ (T76.setTop (mkF m 144 #[iv p1, iv p2, iv p3, iv p4, rv b1, iv 1, iv p2, iv p3, rv b49, iv (flagV p2.toInt8.toInt32.toInt8.toInt32), iv 2, iv (flagV p3.toInt8.toInt32.toInt8.toInt32), iv 3] [(.int 3), (.int 3)]))
            refine Goes.on (fun t k => XS.icmpNo X76.here hx rfl (hb hby at_144) rfl (teq (by decide)).2 k) ?_
            show Goes p e below QQ (T76.setTop (mkF m 147 #[iv p1, iv p2, iv p3, iv p4, rv b1, iv 1, iv p2, iv p3, rv b49, iv (flagV p2.toInt8.toInt32.toInt8.toInt32), iv 2, iv (flagV p3.toInt8.toInt32.toInt8.toInt32), iv 3] []))
            refine Goes.on (fun t k => XS.iconst X76.here hx rfl (hb hby at_147) k) ?_
            show Goes p e below QQ (T76.setTop (mkF m 148 #[iv p1, iv p2, iv p3, iv p4, rv b1, iv 1, iv p2, iv p3, rv b49, iv (flagV p2.toInt8.toInt32.toInt8.toInt32), iv 2, iv (flagV p3.toInt8.toInt32.toInt8.toInt32), iv 3] [(.int 1)]))
            refine Goes.on (fun t k => XS.goto X76.here hx rfl (pc0 := 148) (pc' := 152) rfl (hb hby at_148) (by decide) (by decide) k) ?_
            show Goes p e below QQ (T76.setTop (mkF m 152 #[iv p1, iv p2, iv p3, iv p4, rv b1, iv 1, iv p2, iv p3, rv b49, iv (flagV p2.toInt8.toInt32.toInt8.toInt32), iv 2, iv (flagV p3.toInt8.toInt32.toInt8.toInt32), iv 3] [(.int 1)]))
            exact Goes.rN X76 hx (t := .boolean) hret (by simp) hlk (hb hby at_152) hQQ ⟨rfl, N76⟩ (by decide) (by decide)
          · refine Goes.on (fun t k => XS.icmpYes X76.here hx rfl (pc0 := 135) (pc' := 151) rfl (hb hby at_135) rfl (feq hb85).2 (by decide) (by decide) k) ?_
            show Goes p e below QQ (T76.setTop (mkF m 151 #[iv p1, iv p2, iv p3, iv p4, rv b1, iv 1, iv p2, iv p3, rv b49, iv (flagV p2.toInt8.toInt32.toInt8.toInt32), iv 2, iv (flagV p3.toInt8.toInt32.toInt8.toInt32), iv 3] []))
            refine Goes.on (fun t k => XS.iconst X76.here hx rfl (hb hby at_151) k) ?_
            show Goes p e below QQ (T76.setTop (mkF m 152 #[iv p1, iv p2, iv p3, iv p4, rv b1, iv 1, iv p2, iv p3, rv b49, iv (flagV p2.toInt8.toInt32.toInt8.toInt32), iv 2, iv (flagV p3.toInt8.toInt32.toInt8.toInt32), iv 3] [(.int 0)]))
            exact absurd ((((if_neg hst).trans ((if_neg hb77).trans ((if_pos hb82).trans ((if_neg hb83).trans ((if_neg hb85).trans rfl))))) : lawF p1 p2 p3 p4 = (0 : Int32)).symm.trans (lawT p1 p2 p3 p4)) (by decide)
      · refine Goes.on (fun t k => XS.icmpYes X76.here hx rfl (pc0 := 107) (pc' := 151) rfl (hb hby at_107) rfl (feq hb82).2 (by decide) (by decide) k) ?_
        show Goes p e below QQ (T76.setTop (mkF m 151 #[iv p1, iv p2, iv p3, iv p4, rv b1, iv 1, iv p2, iv p3, rv b49, iv (flagV p2.toInt8.toInt32.toInt8.toInt32), iv 2, iv (flagV p3.toInt8.toInt32.toInt8.toInt32), iv 3] []))
        refine Goes.on (fun t k => XS.iconst X76.here hx rfl (hb hby at_151) k) ?_
        show Goes p e below QQ (T76.setTop (mkF m 152 #[iv p1, iv p2, iv p3, iv p4, rv b1, iv 1, iv p2, iv p3, rv b49, iv (flagV p2.toInt8.toInt32.toInt8.toInt32), iv 2, iv (flagV p3.toInt8.toInt32.toInt8.toInt32), iv 3] [(.int 0)]))
        exact absurd ((((if_neg hst).trans ((if_neg hb77).trans ((if_neg hb82).trans rfl))) : lawF p1 p2 p3 p4 = (0 : Int32)).symm.trans (lawT p1 p2 p3 p4)) (by decide)
set_option maxRecDepth 65536 in
set_option maxHeartbeats 40000000 in
theorem comes_1 {Post : Tables → Env → Array Value → State → Outcome → State → Prop} (hpost : ∀ tb e args s v u, (limb_1_1.after args s (.returned v) u = true ∧ limb_1_2.after args s (.returned v) u = true ∧ True) → FrameEnd s (.returned v) u (Jvm.fieldLocs frame_1_writes args s ++ Jvm.arrayLocs frame_1_arrays args s ++ Jvm.staticLocs frame_1_statics s) 16 128 → Post tb e args s (.returned v) u) :
    ArmFor flags0 classFile x code maxLocals ret World_1 tables_1 room_1 Calls_1 rest_1 Pre_1 Post := by
  intro l hfl _ _ p e ha hc hk s m args below hf hA hF happ hP
  obtain ⟨hcalls, hrest, hpre⟩ := hP
  obtain ⟨-, -, -, hnamed, -, -, -, hat⟩ := (Spec.applies_iff hf).mp happ
  obtain ⟨hg, hn⟩ := and_e (Cond.before_iff.mp (show (Jvm.Cond.and given_1 narrow_1).before args s = true from hpre))
  obtain ⟨hg0, hg1⟩ := and_e hg
  obtain ⟨ga1, hg2⟩ := and_e hg1
  obtain ⟨ga2, hg3⟩ := and_e hg2
  obtain ⟨ga3, hg4⟩ := and_e hg3
  obtain ⟨w0, w1, w2, w3, rfl⟩ : ∃ w0 w1 w2 w3 : Value, args = #[w0, w1, w2, w3] := by
    have hs : args.size = 4 := by simpa [Cond.value, given_1] using hg0
    obtain ⟨L⟩ := args
    match L, hs with
    | [w0, w1, w2, w3], _ => exact ⟨w0, w1, w2, w3, rfl⟩
  have hw := fun d (hd : d ∈ tables_1) => atoms_spec (ws := Jvm.Cond.code x code maxLocals ret :: tables_1) hat d (List.mem_cons_of_mem _ hd)
  have hfit : Fit s := fun {y c} hc i hi => by
    obtain ⟨ha, rfl⟩ := Array.getElem?_eq_some_iff.mp hc
    have q := List.all_eq_true.mp ((Array.all_eq_true_iff_forall_mem.mp hF) _ (Array.getElem_mem ha)) i (List.mem_range.mpr hi)
    simpa [Array.getElem?_eq_getElem hi] using q
  obtain ⟨i0, ei0⟩ := is_v ga1
  obtain rfl : w0 = (.int i0) := Option.some.inj ei0
  obtain ⟨i1, ei1⟩ := is_v ga2
  obtain rfl : w1 = (.int i1) := Option.some.inj ei1
  obtain ⟨i2, ei2⟩ := is_v ga3
  obtain rfl : w2 = (.int i2) := Option.some.inj ei2
  obtain ⟨i3, ei3⟩ := is_v hg4
  obtain rfl : w3 = (.int i3) := Option.some.inj ei3
  obtain ⟨n, o, h1, h2, h3, _, L, rfl, ⟨rfl, N⟩, hq⟩ := rm0 l s _ hw tables_1 i0 i1 i2 i3 s.heap s.heap.size (Nat.le_refl _)  p e ha hc hk s m _ below hf ((Spec.applies_iff_loose hf).mp happ).1 ⟨rfl, State.Warmed39.refl s, rfl⟩ trivial
  refine ⟨n, _, h1, h2, h3, hpost _ _ _ _ _ _ ⟨Cond.after_iff.mpr rfl, Cond.after_iff.mpr (eq_i res_at (Term.int_eval (1)) rfl), trivial⟩ ⟨hq.1, hq.2.1, (hq.2.2.sift fun y hy => Or.inr (N y hy)).mono (by decide) (by decide)⟩⟩
theorem main_1_1 : Claimed_1_1 := comes_1 fun _ _ _ _ _ _ h hF => ⟨h.1, hF⟩
theorem main_1_2 : Claimed_1_2 := comes_1 fun _ _ _ _ _ _ h hF => ⟨h.2.1, hF⟩
end Jvm.Pilot.@@N@@
namespace Jvm.Pilot.@@N@@
open Jvm Jvm.ClassFile Sem Op Lib Jvm.Free Jvm.Stand Jvm.Pilot.@@N@@.Jvm.D
/-! MADE BY PROGRAM (witnessworld.py) out of the Statement's table words and the real class files: 9 classes; the members and pool entries that the words name. The judged class is class 1, her method 1. -/
namespace start1
open Jvm.ClassFile
def u (s : String) : CpInfo := .utf8 (stringToUtf16 s)
/-- a pool by its gaps: so many unusable entries, then the entry; so many at the end -/
def gap : Nat → List CpInfo → List CpInfo
  | 0, r => r
  | n + 1, r => .unusable :: gap n r
def poolList (es : List (Nat × CpInfo)) (last : Nat) : List CpInfo := es.foldr (fun e r => gap e.1 (e.2 :: r)) (gap last [])
def pool (es : List (Nat × CpInfo)) (last : Nat) : Array CpInfo := ⟨poolList es last⟩
def fileOf (pool : Array CpInfo) (this : Nat) (attrs : Array Attribute := #[]) (ms : Array MethodInfo := #[]) (fl : Nat := 33) (sup : Nat := 0) (ifs : Array Nat := #[]) (fds : Array FieldInfo := #[]) : ClassFile where
  minorVersion := 0
  majorVersion := 65
  constantPool := pool
  accessFlags := fl
  thisClass := this
  superClass := sup
  interfaces := ifs
  fields := fds
  methods := ms
  attributes := attrs
def plain (name : String) (sup : Option ClassId) : Class where
  name := name
  kind := .ordinary
  loader := none
  accessFlags := 33
  super := sup
  interfaces := #[]
  cf := none
  fields := #[]
  methods := #[]
  instanceTypes := #[]
  staticTypes := #[]
  resolved := #[]
  callSites := []
  init := .initialized
  statics := none
  mirror := none

def pool0 : Array CpInfo := pool [(5, u "<init>"), (0, u "()V"), (1, .class_ 10), (1, u "java/lang/Object")] 113

def k0c0 : Code := { maxStack := 0, maxLocals := 1, code := object_method_1_code, exceptionTable := #[], attributes := #[] }
def k0m0 : Method := { name := "<init>", desc := "()V", sig := { parameters := [], returnType := none }, accessFlags := 1, code := some k0c0 }
/-- java/lang/Object -/
def k0 : Class := { plain "java/lang/Object" none with
  accessFlags := 33
  interfaces := #[]
  cf := some (fileOf pool0 8 #[] #[{ accessFlags := 1, nameIndex := 5, descriptorIndex := 6, attributes := #[] }] 33 0 #[] #[])
  fields := #[]
  methods := #[k0m0]
  instanceTypes := #[]
  staticTypes := #[]
  resolved := Array.replicate 124 none
  statics := none }

def pool1 : Array CpInfo := pool [(2, .class_ 4), (1, u "java/lang/Object"), (0, u "<init>"), (0, u "()V"), (0, .class_ 8), (0, u "com/example/lendgate/lendgate/circulation/Decoder"), (0, .methodref 7 10), (0, .nameAndType 5 11), (0, u "(Lcom/example/lendgate/lendgate/circulation/Symbols;[BI)V"), (0, .methodref 7 13), (0, .nameAndType 14 15), (0, u "flag"), (0, u "()Z"), (0, .methodref 7 17), (0, .nameAndType 18 19), (0, u "position"), (0, u "()I"), (0, .class_ 21), (0, u "com/example/lendgate/lendgate/circulation/DecoderFlagPinLaw"), (2, u "law"), (0, u "(IIII)Z")] 5

def k1m0 : Method := { name := "<init>", desc := "()V", sig := { parameters := [], returnType := none }, accessFlags := 1, code := none }
def k1c1 : Code := { maxStack := 5, maxLocals := 13, code := code, exceptionTable := #[], attributes := #[] }
def k1m1 : Method := { name := "law", desc := "(IIII)Z", sig := { parameters := [.int, .int, .int, .int], returnType := some .boolean }, accessFlags := 9, code := some k1c1 }
/-- com/example/lendgate/lendgate/circulation/DecoderFlagPinLaw -/
def k1 : Class := { plain "com/example/lendgate/lendgate/circulation/DecoderFlagPinLaw" (some 0) with
  accessFlags := 49
  interfaces := #[]
  cf := some (fileOf pool1 20 #[] #[{ accessFlags := 1, nameIndex := 5, descriptorIndex := 6, attributes := #[] }, { accessFlags := 9, nameIndex := 24, descriptorIndex := 25, attributes := #[] }] 49 2 #[] #[])
  fields := #[]
  methods := #[k1m0, k1m1]
  instanceTypes := #[]
  staticTypes := #[]
  resolved := Array.replicate 31 none
  statics := none }

def pool2 : Array CpInfo := pool [(1, .methodref 2 3), (0, .class_ 4), (0, .nameAndType 5 6), (0, u "java/lang/Object"), (0, u "<init>"), (0, u "()V"), (0, .fieldref 8 9), (0, .class_ 10), (0, .nameAndType 11 12), (0, u "com/example/lendgate/lendgate/circulation/Decoder"), (0, u "symbols"), (0, u "Lcom/example/lendgate/lendgate/circulation/Symbols;"), (0, .fieldref 8 14), (0, .nameAndType 15 16), (0, u "bytes"), (0, u "[B"), (0, .fieldref 8 18), (0, .nameAndType 19 20), (0, u "position"), (0, u "I"), (46, u "(Lcom/example/lendgate/lendgate/circulation/Symbols;[BI)V"), (4, u "flag"), (0, u "()Z"), (3, u "()I")] 17

def k2c0 : Code := { maxStack := 2, maxLocals := 4, code := prog_8_method_1_code, exceptionTable := #[], attributes := #[] }
def k2m0 : Method := { name := "<init>", desc := "(Lcom/example/lendgate/lendgate/circulation/Symbols;[BI)V", sig := { parameters := [(.object "com/example/lendgate/lendgate/circulation/Symbols"), (.array .byte), .int], returnType := none }, accessFlags := 0, code := some k2c0 }
def k2c1 : Code := { maxStack := 5, maxLocals := 1, code := prog_8_method_4_code, exceptionTable := #[], attributes := #[] }
def k2m1 : Method := { name := "flag", desc := "()Z", sig := { parameters := [], returnType := some .boolean }, accessFlags := 0, code := some k2c1 }
def k2c2 : Code := { maxStack := 1, maxLocals := 1, code := prog_8_method_8_code, exceptionTable := #[], attributes := #[] }
def k2m2 : Method := { name := "position", desc := "()I", sig := { parameters := [], returnType := some .int }, accessFlags := 0, code := some k2c2 }
/-- com/example/lendgate/lendgate/circulation/Decoder -/
def k2 : Class := { plain "com/example/lendgate/lendgate/circulation/Decoder" (some 0) with
  accessFlags := 48
  interfaces := #[]
  cf := some (fileOf pool2 8 #[] #[{ accessFlags := 0, nameIndex := 5, descriptorIndex := 67, attributes := #[] }, { accessFlags := 0, nameIndex := 72, descriptorIndex := 73, attributes := #[] }, { accessFlags := 0, nameIndex := 19, descriptorIndex := 77, attributes := #[] }] 48 2 #[] #[{ accessFlags := 18, nameIndex := 11, descriptorIndex := 12, attributes := #[] }, { accessFlags := 18, nameIndex := 15, descriptorIndex := 16, attributes := #[] }, { accessFlags := 2, nameIndex := 19, descriptorIndex := 20, attributes := #[] }])
  fields := #[{ name := "symbols", type := (.object "com/example/lendgate/lendgate/circulation/Symbols"), accessFlags := 18, slot := 0, constantValue := 0 }, { name := "bytes", type := (.array .byte), accessFlags := 18, slot := 1, constantValue := 0 }, { name := "position", type := .int, accessFlags := 2, slot := 2, constantValue := 0 }]
  methods := #[k2m0, k2m1, k2m2]
  instanceTypes := #[(.object "com/example/lendgate/lendgate/circulation/Symbols"), (.array .byte), .int]
  staticTypes := #[]
  resolved := Array.replicate 95 none
  statics := none }

def pool3 : Array CpInfo := pool [(1, u "java/lang/Cloneable"), (0, .class_ 1), (0, u "java/lang/Object"), (0, .class_ 3)] 3

/-- java/lang/Cloneable -/
def k3 : Class := { plain "java/lang/Cloneable" (some 0) with
  accessFlags := 1537
  interfaces := #[]
  cf := some (fileOf pool3 2 #[] #[] 1537 4 #[] #[])
  fields := #[]
  methods := #[]
  instanceTypes := #[]
  staticTypes := #[]
  resolved := Array.replicate 8 none
  statics := none }

def pool4 : Array CpInfo := pool [(1, u "java/io/Serializable"), (0, .class_ 1), (0, u "java/lang/Object"), (0, .class_ 3)] 3

/-- java/io/Serializable -/
def k4 : Class := { plain "java/io/Serializable" (some 0) with
  accessFlags := 1537
  interfaces := #[]
  cf := some (fileOf pool4 2 #[] #[] 1537 4 #[] #[])
  fields := #[]
  methods := #[]
  instanceTypes := #[]
  staticTypes := #[]
  resolved := Array.replicate 8 none
  statics := none }

/-- the primitive byte -/
def k5 : Class := { plain "byte" none with kind := .primitive 'B', accessFlags := 0x411 }
/-- [B -/
def k6 : Class := { plain "[B" (some 0) with kind := .array 5 .byte, interfaces := #[3, 4], accessFlags := 1041 }

/-- the primitive int -/
def k7 : Class := { plain "int" none with kind := .primitive 'I', accessFlags := 0x411 }
/-- [I -/
def k8 : Class := { plain "[I" (some 0) with kind := .array 7 .int, interfaces := #[3, 4], accessFlags := 1041 }

def heap : Heap := #[]
def classes : Array Class := #[k0, k1, k2, k3, k4, k5, k6, k7, k8]
def interned : List (Array UInt16 × Addr) := []
def slotsUsed : Nat := 0
def theMethod : MethodId := ⟨1, 1⟩
def args0 : Array Value := #[.int 5, .int 300, .int 7, .int 3]
def aboutOver (below : List Frame) : State where
  vm := { classes := classes, interned := interned.toArray }
  heap := heap
  slotsUsed := slotsUsed
  threads := #[{ frames := .invoking theMethod args0 :: below }]
def below0 : List Frame := [.native { method := ⟨0, 0⟩, args := #[] }]
def about1 : State := aboutOver below0
def p0 : Program := .bare "" "" ""
def e0 : Env := launch0.env 0 0 0
theorem w_frames : about1.frames = Frame.invoking theMethod args0 :: below0 := rfl
set_option maxRecDepth 65536 in
theorem w_args : argsFit about1.vm theMethod args0 = true := by decide +kernel
set_option maxRecDepth 65536 in
theorem w_heap : heapFits about1 = true := by decide +kernel
set_option maxRecDepth 65536 in
theorem w_runnable : about1.curStatus? = some .runnable := by decide +kernel
set_option maxRecDepth 65536 in
theorem w_alone : about1.alone = true := by decide +kernel
set_option maxRecDepth 65536 in
theorem w_named : about1.methodNamed? x = some theMethod := by decide +kernel
set_option maxRecDepth 65536 in
theorem w_hears : about1.hears theMethod below0 = true := by decide +kernel
set_option maxRecDepth 65536 in
theorem w_ripe : about1.ripe theMethod args0 below0 = true := by decide +kernel
theorem w_running : about1.status = .running := rfl
set_option maxRecDepth 65536 in
theorem w_room : about1.hasRoom e0.platform room_1 = true :=
  launch0.hasRoom_least _ room_1 (by decide +kernel) (by decide +kernel) (by decide +kernel) (by decide +kernel) (by decide +kernel) (by decide +kernel)
theorem allAtoms_all (ts : List Jvm.Cond) (a : Array Jvm.Value) (st : Jvm.State) : (allAtoms ts).before a st = ts.all (fun c => c.before a st) := by
  induction ts with
  | nil => rfl
  | cons c t ih =>
    show (Jvm.Cond.and c (allAtoms t)).before a st = _
    rw [Jvm.Cond.before_and, ih, List.all_cons]
def words1 : List Jvm.Cond := Jvm.Cond.code x code maxLocals ret :: tables_1
/-- a 'code' word, met by the world's own term for the bytes: nothing is compared byte by byte -/
theorem code_word {y : MethodName} {bytes : ByteArray} {mx : Nat} {rt : Option FieldType} {a : Array Value} {s : State} {m : MethodId} {meth : Method} {c : Code} (h1 : s.methodNamed? y = some m) (h2 : s.vm.method? m = some meth) (h3 : meth.code = some c) (h4 : c.code = bytes)
    (h5 : (c.maxLocals == mx && c.exceptionTable.isEmpty && decide (c.maxStack ≤ mostOperands) && decide (meth.sig.returnType = rt) && !meth.locks && decide (parseMethodDescriptor y.desc = some meth.sig)) = true) : (Jvm.Cond.code y bytes mx rt).before a s = true := by
  simp only [Bool.and_eq_true, beq_iff_eq, Bool.not_eq_true', decide_eq_true_eq] at h5
  obtain ⟨⟨⟨⟨⟨g1, g2⟩, g3⟩, g4⟩, g5⟩, g6⟩ := h5
  simp [Cond.before, Cond.holds, Cond.value, h1, h2, h3, h4, g1, g2, g3, g4, g5, g6]
def isCode : Jvm.Cond → Bool
  | .code _ _ _ _ => true
  | _ => false
theorem all_split {L : List Jvm.Cond} {P : Jvm.Cond → Bool} (h1 : L.all (fun c => isCode c || P c) = true) (h2 : ∀ c ∈ L.filter isCode, P c = true) : L.all P = true := by
  refine List.all_eq_true.mpr fun c hc => ?_
  have h := List.all_eq_true.mp h1 c hc
  rcases Bool.eq_false_or_eq_true (isCode c) with hi | hi
  · exact h2 c (List.mem_filter.mpr ⟨hc, hi⟩)
  · simpa [hi] using h
set_option maxRecDepth 65536 in
theorem w_c0 : (Jvm.Cond.code x code maxLocals ret).before args0 about1 = true := code_word (m := ⟨1, 1⟩) (meth := k1m1) (c := k1c1) (by decide +kernel) rfl rfl rfl (by decide +kernel)
set_option maxRecDepth 65536 in
theorem w_c1 : (Jvm.Cond.code ({ cls := "com/example/lendgate/lendgate/circulation/Decoder", name := "<init>", desc := "(Lcom/example/lendgate/lendgate/circulation/Symbols;[BI)V" } : Jvm.MethodName) prog_8_method_1_code (4 : Nat) (Option.none : Option Jvm.ClassFile.FieldType)).before args0 about1 = true := code_word (m := ⟨2, 0⟩) (meth := k2m0) (c := k2c0) (by decide +kernel) rfl rfl rfl (by decide +kernel)
set_option maxRecDepth 65536 in
theorem w_c2 : (Jvm.Cond.code ({ cls := "java/lang/Object", name := "<init>", desc := "()V" } : Jvm.MethodName) object_method_1_code (1 : Nat) (Option.none : Option Jvm.ClassFile.FieldType)).before args0 about1 = true := code_word (m := ⟨0, 0⟩) (meth := k0m0) (c := k0c0) (by decide +kernel) rfl rfl rfl (by decide +kernel)
set_option maxRecDepth 65536 in
theorem w_c3 : (Jvm.Cond.code ({ cls := "com/example/lendgate/lendgate/circulation/Decoder", name := "flag", desc := "()Z" } : Jvm.MethodName) prog_8_method_4_code (1 : Nat) (Option.some Jvm.ClassFile.FieldType.boolean)).before args0 about1 = true := code_word (m := ⟨2, 1⟩) (meth := k2m1) (c := k2c1) (by decide +kernel) rfl rfl rfl (by decide +kernel)
set_option maxRecDepth 65536 in
theorem w_c4 : (Jvm.Cond.code ({ cls := "com/example/lendgate/lendgate/circulation/Decoder", name := "position", desc := "()I" } : Jvm.MethodName) prog_8_method_8_code (1 : Nat) (Option.some Jvm.ClassFile.FieldType.int)).before args0 about1 = true := code_word (m := ⟨2, 2⟩) (meth := k2m2) (c := k2c2) (by decide +kernel) rfl rfl rfl (by decide +kernel)
def codes1 : List Jvm.Cond := [Jvm.Cond.code x code maxLocals ret, Jvm.Cond.code ({ cls := "com/example/lendgate/lendgate/circulation/Decoder", name := "<init>", desc := "(Lcom/example/lendgate/lendgate/circulation/Symbols;[BI)V" } : Jvm.MethodName) prog_8_method_1_code (4 : Nat) (Option.none : Option Jvm.ClassFile.FieldType), Jvm.Cond.code ({ cls := "java/lang/Object", name := "<init>", desc := "()V" } : Jvm.MethodName) object_method_1_code (1 : Nat) (Option.none : Option Jvm.ClassFile.FieldType), Jvm.Cond.code ({ cls := "com/example/lendgate/lendgate/circulation/Decoder", name := "flag", desc := "()Z" } : Jvm.MethodName) prog_8_method_4_code (1 : Nat) (Option.some Jvm.ClassFile.FieldType.boolean), Jvm.Cond.code ({ cls := "com/example/lendgate/lendgate/circulation/Decoder", name := "position", desc := "()I" } : Jvm.MethodName) prog_8_method_8_code (1 : Nat) (Option.some Jvm.ClassFile.FieldType.int)]
set_option maxRecDepth 65536 in
theorem codes_eq : words1.filter isCode = codes1 := rfl
theorem w_codes : ∀ c ∈ words1.filter isCode, c.before args0 about1 = true := by
  rw [codes_eq]
  intro c hc
  simp only [codes1, List.mem_cons, List.not_mem_nil, or_false] at hc
  rcases hc with rfl | rfl | rfl | rfl | rfl
  · exact w_c0
  · exact w_c1
  · exact w_c2
  · exact w_c3
  · exact w_c4
set_option maxRecDepth 65536 in
theorem w_t1 : (words1.take 24).all (fun c => isCode c || c.before args0 about1) = true := by decide +kernel
set_option maxRecDepth 65536 in
theorem w_t2 : (words1.drop 24).all (fun c => isCode c || c.before args0 about1) = true := by decide +kernel
theorem w_tables : (allAtoms (Jvm.Cond.code x code maxLocals ret :: tables_1)).before args0 about1 = true := by
  rw [allAtoms_all]
  show words1.all (fun c => c.before args0 about1) = true
  refine all_split ?_ w_codes
  rw [← List.take_append_drop 24 words1, List.all_append, w_t1, w_t2]
  rfl
set_option maxRecDepth 65536 in
theorem w_case : (Jvm.Cond.and given_1 narrow_1).before args0 about1 = true := by decide +kernel
theorem w_applies : (headSpec (Jvm.Cond.code x code maxLocals ret :: tables_1) room_1).applies x e0.platform about1 = true :=
  (Spec.applies_iff w_frames).mpr ⟨w_running, w_runnable, w_alone, w_named, w_hears, w_ripe, w_room, w_tables⟩
theorem atStart : AtStart classFile x code maxLocals ret World_1 tables_1 room_1 Calls_1 rest_1 Pre_1 launch0 p0 e0 about1 theMethod args0 below0 :=
  ⟨lists_1, trivial, launch0.admits_env _ _ _, launch0.least_env, fairChoices_fair.cas, fairChoices_fair.clock, w_frames, w_args, w_heap, w_applies, trivial, trivial, w_case⟩
end start1
theorem witness_1 : WitnessClaimed_1 := ⟨start1.p0, start1.e0, start1.about1, start1.theMethod, start1.args0, start1.below0, start1.atStart⟩
end Jvm.Pilot.@@N@@
