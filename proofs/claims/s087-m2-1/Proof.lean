import JvmDerived
import JvmDerived.Pilot.@@N@@Statement
import JvmDerived.Pilot.@@N@@Code
set_option linter.unusedVariables false
set_option linter.unusedSimpArgs false
namespace Jvm.Pilot.@@N@@
open Jvm Jvm.ClassFile Sem Op Lib Jvm.Free Jvm.Stand Jvm.LawKit Jvm.RoadKit Bundle Jvm.Pilot.@@N@@.Jvm.D
/-! from the state S the run comes to an end that QQ allows -/
def Goes (p : Program) (e : Env) (below : List Frame) (QQ : Outcome → State → Prop) (S : State) : Prop :=
  ∃ s₂ o, Steps p.tables e below S s₂ ∧ s₂.status = .running ∧ Ended s₂ below o ∧ QQ o s₂
theorem Goes.on {p : Program} {e : Env} {below : List Frame} {QQ : Outcome → State → Prop} {S S' : State} (h : ∀ t, Steps p.tables e below S' t → Steps p.tables e below S t) (g : Goes p e below QQ S') : Goes p e below QQ S := by
  obtain ⟨s₂, o, h1, h2⟩ := g
  exact ⟨s₂, o, h _ h1, h2⟩
theorem Goes.cast {p : Program} {e : Env} {below : List Frame} {QQ : Outcome → State → Prop} {T : State} {g g' : JFrame} (q : g = g') (k : Goes p e below QQ (T.setTop g')) : Goes p e below QQ (T.setTop g) := q ▸ k
def EndsQ (s : State) (Q : Option Value → Heap → List Loc → Prop) (kc ks : Nat) (o : Outcome) (U' : State) : Prop := ∃ v L, o = .returned v ∧ Q v U'.heap L ∧ FrameEnd s o U' L kc ks
/-- a result alone -/
def QP (x : Value) (h0 : Heap) (n0 : Nat) (v : Option Value) (h : Heap) (L : List Loc) : Prop := v = some x ∧ Fr n0 L ∧ h = h0
theorem own_enter {l : Launch} {y : MethodName} {bytes : ByteArray} {maxL : Nat} {rt : Option FieldType} {ws : List Jvm.Cond} {rm : Room} {as' : Array Value} {Q : Option Value → Heap → List Loc → Prop} {Z : State} {h0 : Heap} {kc ks : Nat} (hp : plainFor y = true)
    (body : ∀ (p : Program) (e : Env) (s : State) (m : MethodId) (below : List Frame) (meth : Method) (c : Code) (s₁ : State) (QQ : Outcome → State → Prop), (∀ o U', EndsQ s Q kc ks o U' → QQ o U') → p.tables.exec = Jvm.exec → c.code = bytes → c.maxLocals = maxL → s.vm.findClass y.cls = some m.cls → meth.name = y.name → meth.sig.returnType = rt → meth.locks = false → Z.Warmed39 s.vm → Stand p l e rm s m as' below meth c s₁ [] 0 0 → s₁.heap = h0 →
      Goes p e below QQ (s₁.setTop (entryFrame m as' maxL))) :
    MetFree l y (head1 (Jvm.Cond.code y bytes maxL rt :: ws) rm) (fun a U => a = as' ∧ Z.Warmed39 U.vm ∧ U.heap = h0) (fun _ _ _ _ _ => True) (fun _ U o U' => ∃ v L, o = .returned v ∧ Q v U'.heap L ∧ FrameEnd U o U' L kc ks) := by
  refine MetFree.of_bodySF hp hisR ?_
  intro p e s m args below meth c s₁ Bd hml0 hP hK
  obtain ⟨rfl, hZ, hh⟩ := hP
  exact body p e s m below meth c s₁ _ (fun o U' h => h) Bd.exec Bd.bytes hml0 (findClass_of_methodNamed Bd.named) (name_of_methodNamed Bd.named Bd.method).1 Bd.returns (BodyLoose.notSynchronized Bd) hZ (Stand.of_body Bd) (by rw [← hh, Bd.state]; rfl)
section Ret
variable {p : Program} {l : Launch} {e : Env} {R : Room} {s : State} {m : MethodId} {args : Array Value} {below : List Frame} {meth : Method} {c : Code} {T : State} {locs : List Loc} {cells slots kc ks : Nat} {QQ : Outcome → State → Prop} {Q : Option Value → Heap → List Loc → Prop}
theorem Goes.fin (X : Stand p l e R s m args below meth c T locs cells slots) (hlk : meth.locks = false) {v : Option Value} (hv : meth.sig.returnType = none → v = none) {g : JFrame}
    (step : ∀ fs : List Frame, (∀ (f : JFrame) (acts : List Action), f.method = m → f.locked = none → f.entered = [] → (doReturn e (T.setTop f) acts v).1 = T.setFrames fs) → Steps p.tables e below (T.setTop g) (T.setFrames fs))
    (hQQ : ∀ o U', EndsQ s Q kc ks o U' → QQ o U') (hq : Q v T.heap locs) (hc : cells ≤ kc) (hs : slots ≤ ks) : Goes p e below QQ (T.setTop g) := by
  obtain ⟨fs, hr, hrun, hended, hW, hsame⟩ := X.leave (v := v) hv hlk
  exact ⟨_, _, step fs hr, hrun, hended, hQQ _ _ ⟨v, locs, rfl, hq, ⟨v, rfl⟩, hW, hsame.mono hc hs⟩⟩
theorem Goes.rI (X : Stand p l e R s m args below meth c T locs cells slots) (hx : p.tables.exec = Jvm.exec) (hret : meth.sig.returnType = some .int) (hlk : meth.locks = false) {pc : Nat} {Ls : Array Slot} {z : Int32} {rest : List Value} (hd : decode c.code pc = .ok (.ireturn, 1))
    (hQQ : ∀ o U', EndsQ s Q kc ks o U' → QQ o U') (hq : Q (some (.int z)) T.heap locs) (hc : cells ≤ kc) (hs : slots ≤ ks) : Goes p e below QQ (T.setTop (mkF m pc Ls (.int z :: rest))) :=
  Goes.fin X hlk (v := some (.int z)) (fun h => by rw [hret] at h; cases h) (fun fs hr => retOut X hx hret rfl (Or.inl ⟨rfl, Or.inl rfl, z, rfl⟩) hd hr) hQQ hq hc hs
theorem Goes.rN (X : Stand p l e R s m args below meth c T locs cells slots) (hx : p.tables.exec = Jvm.exec) {t : FieldType} (hret : meth.sig.returnType = some t) (ht : t = .boolean ∨ t = .byte ∨ t = .char ∨ t = .short) (hlk : meth.locks = false) {pc : Nat} {Ls : Array Slot} {z : Int32} {rest : List Value} (hd : decode c.code pc = .ok (.ireturn, 1))
    (hQQ : ∀ o U', EndsQ s Q kc ks o U' → QQ o U') (hq : Q (some (.int (nar t z))) T.heap locs) (hc : cells ≤ kc) (hs : slots ≤ ks) : Goes p e below QQ (T.setTop (mkF m pc Ls (.int z :: rest))) :=
  Goes.fin X hlk (v := some (.int (nar t z))) (fun h => by rw [hret] at h; cases h) (fun fs hr => retN X hx hret ht hd hr) hQQ hq hc hs
theorem Goes.rJ (X : Stand p l e R s m args below meth c T locs cells slots) (hx : p.tables.exec = Jvm.exec) (hret : meth.sig.returnType = some .long) (hlk : meth.locks = false) {pc : Nat} {Ls : Array Slot} {z : Int64} {rest : List Value} (hd : decode c.code pc = .ok (.lreturn, 1))
    (hQQ : ∀ o U', EndsQ s Q kc ks o U' → QQ o U') (hq : Q (some (.long z)) T.heap locs) (hc : cells ≤ kc) (hs : slots ≤ ks) : Goes p e below QQ (T.setTop (mkF m pc Ls (.long z :: rest))) :=
  Goes.fin X hlk (v := some (.long z)) (fun h => by rw [hret] at h; cases h) (fun fs hr => retOut X hx hret rfl (Or.inr (Or.inl ⟨rfl, rfl, z, rfl⟩)) hd hr) hQQ hq hc hs
theorem Goes.rA (X : Stand p l e R s m args below meth c T locs cells slots) (hx : p.tables.exec = Jvm.exec) {t : FieldType} (hret : meth.sig.returnType = some t) (ht : t.isReference = true) {w : Value} (hw : w.isRef = true) (hlk : meth.locks = false) {pc : Nat} {Ls : Array Slot} {rest : List Value} (hd : decode c.code pc = .ok (.areturn, 1))
    (hQQ : ∀ o U', EndsQ s Q kc ks o U' → QQ o U') (hq : Q (some w) T.heap locs) (hc : cells ≤ kc) (hs : slots ≤ ks) : Goes p e below QQ (T.setTop (mkF m pc Ls (w :: rest))) :=
  Goes.fin X hlk (v := some w) (fun h => by rw [hret] at h; cases h) (fun fs hr => retOut X hx hret (by cases w <;> first | (cases hw; done) | (cases t <;> first | (cases ht; done) | rfl)) (Or.inr (Or.inr (Or.inr (Or.inr ⟨rfl, ht, hw⟩)))) hd hr) hQQ hq hc hs
theorem Goes.rV (X : Stand p l e R s m args below meth c T locs cells slots) (hx : p.tables.exec = Jvm.exec) (hret : meth.sig.returnType = none) (hlk : meth.locks = false) {pc : Nat} {Ls : Array Slot} (hd : decode c.code pc = .ok (.return_, 1))
    (hQQ : ∀ o U', EndsQ s Q kc ks o U' → QQ o U') (hq : Q none T.heap locs) (hc : cells ≤ kc) (hs : slots ≤ ks) : Goes p e below QQ (T.setTop (mkF m pc Ls [])) :=
  Goes.fin X hlk (v := none) (fun _ => rfl) (fun fs hr => X.returnOut hx hret hd hr) hQQ hq hc hs
end Ret
/-- what the law leaves: it returned 1, and nothing old was written -/
def QL (n0 : Nat) (v : Option Value) (h : Heap) (L : List Loc) : Prop := v = some (.int 1) ∧ Fr n0 L
/-- nothing returned, the heap as it was -/
def QV (h0 : Heap) (n0 : Nat) (v : Option Value) (h : Heap) (L : List Loc) : Prop := v = none ∧ Fr n0 L ∧ h = h0
def QI (Z : State) (a1 : Addr) (p1 p2 p3 : Int32) (h0 : Heap) (n0 : Nat) (v : Option Value) (h : Heap) (L : List Loc) : Prop := v = none ∧ Fr n0 L ∧ Keep h0 h [a1] ∧ Fld Z h a1 "com/example/clew/clew/algebra/Atom$Statement" "property" "I" (.int p1) ∧ Fld Z h a1 "com/example/clew/clew/algebra/Atom$Statement" "subject" "I" (.int p2) ∧ Fld Z h a1 "com/example/clew/clew/algebra/Atom$Statement" "object" "I" (.int p3)
def QA (Z : State) (p1 p2 p3 : Int32) (h0 : Heap) (n0 : Nat) (v : Option Value) (h : Heap) (L : List Loc) : Prop := ∃ (b : Addr) (kb : ClassId), v = some (.ref b) ∧ Fr n0 L ∧ Keep h0 h [] ∧ h0.size ≤ b ∧ Arv Z h b kb .int (3 : Int32) [(.int p1), (.int p2), (.int p3)] (.int (0 : Int32))
theorem d2_0 : decode jdk_30_method_1_code 0 = .ok (.aload_n 0, 1) := by decide +kernel
theorem d2_1 : decode jdk_30_method_1_code 1 = .ok (.invokespecial 1, 3) := by decide +kernel
theorem d2_4 : decode jdk_30_method_1_code 4 = .ok (.return_, 1) := by decide +kernel
theorem pn_2 : plainFor (⟨"java/lang/Record", "<init>", "()V"⟩ : MethodName) = true := plainFor_of_name (show plainName "java/lang/Record" = true by first | (simp [plainName, overriddenIn]; done) | decide +kernel)
theorem ef_rmR (m : MethodId) (x0 : Addr) : entryFrame m #[(.ref x0)] 1 = mkF m 0 #[rv x0] [] := by first | (simp [entryFrame, mkF, argsToLocals, Value.category]; done) | rfl
set_option maxRecDepth 65536 in
set_option maxHeartbeats 40000000 in
theorem rmR (l : Launch) (Z : State) (a0 : Array Value) (hw : ∀ d ∈ tables_1, d.before a0 Z = true) (ws : List Jvm.Cond) (a1 : Addr) (h0 : Heap) (n0 : Nat) (Z0 : n0 ≤ h0.size)  :
    MetFree l (⟨"java/lang/Record", "<init>", "()V"⟩ : MethodName) (head1 (Jvm.Cond.code (⟨"java/lang/Record", "<init>", "()V"⟩ : MethodName) jdk_30_method_1_code 1 none :: ws) ({ frames := 1, cells := 0, slots := 0, locals := 12 } : Room)) (fun a U => a = #[(.ref a1)] ∧ Z.Warmed39 U.vm ∧ U.heap = h0) (fun _ _ _ _ _ => True) (fun _ U o U' => ∃ v L, o = .returned v ∧ QV h0 n0 v U'.heap L ∧ FrameEnd U o U' L ({ frames := 1, cells := 0, slots := 0, locals := 12 } : Room).cells ({ frames := 1, cells := 0, slots := 0, locals := 12 } : Room).slots) := by
  refine own_enter pn_2 ?_
  intro p e s m below meth c s₁ QQ hQQ hx hby hml hown hnm hret hlk hZ X0 e0
  have hown : s.vm.findClass "java/lang/Record" = some m.cls := hown
  have hml : c.maxLocals = 1 := hml
  have hret : meth.sig.returnType = none := hret
  have N0 := Fr.nil n0
  have K0 := Keep.refl h0 []
  refine Goes.cast (ef_rmR m a1) ?_
  show Goes p e below QQ (s₁.setTop (mkF m 0 #[rv a1] []))
  refine Goes.on (fun t k => XS.aloadN X0.here hx rfl (hb hby d2_0) rfl rfl k) ?_
  show Goes p e below QQ (s₁.setTop (mkF m 1 #[rv a1] [(.ref a1)]))
  obtain ⟨T1, X1, e1, st1⟩ := initO X0 hx hZ hown (hw _ (List.mem_of_getElem? (i := 11) rfl)) (hw _ (List.mem_of_getElem? (i := 12) rfl)) (hw _ (List.mem_of_getElem? (i := 13) rfl)) e0 (g := (mkF m 1 #[rv a1] [(.ref a1)])) rfl (by rw [hml]; rfl) rfl (hb hby d2_1) (by decide) (W := 0) (by show 2 * 0 + _ ≤ _; exact Nat.le_of_eq rfl) (by decide)
  refine Goes.on (fun t k => st1 t k) ?_
  show Goes p e below QQ (T1.setTop (mkF m 4 #[rv a1] []))
  exact Goes.rV X1 hx hret hlk (hb hby d2_4) hQQ ⟨rfl, N0, e1⟩ (by decide) (by decide)
theorem d1_0 : decode prog_13_method_1_code 0 = .ok (.aload_n 0, 1) := by decide +kernel
theorem d1_1 : decode prog_13_method_1_code 1 = .ok (.invokespecial 1, 3) := by decide +kernel
theorem d1_4 : decode prog_13_method_1_code 4 = .ok (.aload_n 0, 1) := by decide +kernel
theorem d1_5 : decode prog_13_method_1_code 5 = .ok (.iload_n 1, 1) := by decide +kernel
theorem d1_6 : decode prog_13_method_1_code 6 = .ok (.putfield 7, 3) := by decide +kernel
theorem d1_9 : decode prog_13_method_1_code 9 = .ok (.aload_n 0, 1) := by decide +kernel
theorem d1_10 : decode prog_13_method_1_code 10 = .ok (.iload_n 2, 1) := by decide +kernel
theorem d1_11 : decode prog_13_method_1_code 11 = .ok (.putfield 13, 3) := by decide +kernel
theorem d1_14 : decode prog_13_method_1_code 14 = .ok (.aload_n 0, 1) := by decide +kernel
theorem d1_15 : decode prog_13_method_1_code 15 = .ok (.iload_n 3, 1) := by decide +kernel
theorem d1_16 : decode prog_13_method_1_code 16 = .ok (.putfield 16, 3) := by decide +kernel
theorem d1_19 : decode prog_13_method_1_code 19 = .ok (.return_, 1) := by decide +kernel
theorem pn_1 : plainFor (⟨"com/example/clew/clew/algebra/Atom$Statement", "<init>", "(III)V"⟩ : MethodName) = true := plainFor_of_name (show plainName "com/example/clew/clew/algebra/Atom$Statement" = true by first | (simp [plainName, overriddenIn]; done) | decide +kernel)
theorem ef_rm1 (m : MethodId) (x0 : Addr) (x1 : Int32) (x2 : Int32) (x3 : Int32) : entryFrame m #[(.ref x0), (.int x1), (.int x2), (.int x3)] 4 = mkF m 0 #[rv x0, iv x1, iv x2, iv x3] [] := by first | (simp [entryFrame, mkF, argsToLocals, Value.category]; done) | rfl
theorem pd_0 : parseMethodDescriptor "()V" = some ⟨[], none⟩ := by decide +kernel
set_option maxRecDepth 65536 in
set_option maxHeartbeats 40000000 in
theorem rm1 (l : Launch) (Z : State) (a0 : Array Value) (hw : ∀ d ∈ tables_1, d.before a0 Z = true) (ws : List Jvm.Cond) (a1 : Addr) (p1 p2 p3 : Int32) (h0 : Heap) (n0 : Nat) (Z0 : n0 ≤ h0.size) (E_a1 : Exa Z h0 a1 "com/example/clew/clew/algebra/Atom$Statement") (F_property_a1 : Fld Z h0 a1 "com/example/clew/clew/algebra/Atom$Statement" "property" "I" (.int 0)) (F_subject_a1 : Fld Z h0 a1 "com/example/clew/clew/algebra/Atom$Statement" "subject" "I" (.int 0)) (F_object_a1 : Fld Z h0 a1 "com/example/clew/clew/algebra/Atom$Statement" "object" "I" (.int 0)) (g_a1 : n0 ≤ a1) :
    MetFree l (⟨"com/example/clew/clew/algebra/Atom$Statement", "<init>", "(III)V"⟩ : MethodName) (head1 (Jvm.Cond.code (⟨"com/example/clew/clew/algebra/Atom$Statement", "<init>", "(III)V"⟩ : MethodName) prog_13_method_1_code 4 none :: ws) ({ frames := 2, cells := 0, slots := 0, locals := 24 } : Room)) (fun a U => a = #[(.ref a1), (.int p1), (.int p2), (.int p3)] ∧ Z.Warmed39 U.vm ∧ U.heap = h0) (fun _ _ _ _ _ => True) (fun _ U o U' => ∃ v L, o = .returned v ∧ QI Z a1 p1 p2 p3 h0 n0 v U'.heap L ∧ FrameEnd U o U' L ({ frames := 2, cells := 0, slots := 0, locals := 24 } : Room).cells ({ frames := 2, cells := 0, slots := 0, locals := 24 } : Room).slots) := by
  refine own_enter pn_1 ?_
  intro p e s m below meth c s₁ QQ hQQ hx hby hml hown hnm hret hlk hZ X0 e0
  have hown : s.vm.findClass "com/example/clew/clew/algebra/Atom$Statement" = some m.cls := hown
  have hml : c.maxLocals = 4 := hml
  have hret : meth.sig.returnType = none := hret
  have N0 := Fr.nil n0
  have K0 := Keep.refl h0 [a1]
  refine Goes.cast (ef_rm1 m a1 p1 p2 p3) ?_
  show Goes p e below QQ (s₁.setTop (mkF m 0 #[rv a1, iv p1, iv p2, iv p3] []))
  refine Goes.on (fun t k => XS.aloadN X0.here hx rfl (hb hby d1_0) rfl rfl k) ?_
  show Goes p e below QQ (s₁.setTop (mkF m 1 #[rv a1, iv p1, iv p2, iv p3] [(.ref a1)]))
  obtain ⟨_, _, ⟨T1, L1, k1, n1⟩, -, X1, ⟨Lc1, hQ1, l1, y1, z1⟩, st1⟩ := X0.specialBack hx (y := (⟨"java/lang/Record", "<init>", "()V"⟩ : MethodName)) rfl hown (mvT hZ (hw _ (List.mem_of_getElem? (i := 6) rfl))) (mvT hZ (hw _ (List.mem_of_getElem? (i := 7) rfl))) (mvT hZ (hw _ (List.mem_of_getElem? (i := 10) rfl))) (by decide) (backOf (W := 0) (rmR l Z a0 hw [] a1 h0 n0 (Nat.le_trans Z0 K0.1)) hZ (hw _ (List.mem_of_getElem? (i := 10) rfl)) (hw _ (List.mem_of_getElem? (i := 9) rfl)) (by decide) (by decide)) (g := (mkF m 1 #[rv a1, iv p1, iv p2, iv p3] [(.ref a1)])) rfl (by rw [hml]; rfl) (Steps.refl _) (a := a1) (argsL := []) (rest := []) (lenOf pd_0 rfl) rfl (by show 2 * 0 + _ ≤ _; exact Nat.le_of_eq rfl) (hb hby d1_1) (fun _ _ => ⟨rfl, e0, (by decide : 0 + 0 ≤ _), (by decide : 0 + 0 ≤ _)⟩)
  dsimp only [Pt.U, Pt.locs, Pt.cells, Pt.slots] at X1 l1 y1 z1 st1 hQ1
  subst l1 y1 z1
  obtain ⟨rfl, M1, e1⟩ := hQ1
  have N1 := Fr.app N0 M1
  refine Goes.on (fun t k => st1.trans k) ?_
  show Goes p e below QQ (T1.setTop (mkF m 4 #[rv a1, iv p1, iv p2, iv p3] []))
  refine Goes.on (fun t k => XS.aloadN X1.here hx rfl (hb hby d1_4) rfl rfl k) ?_
  show Goes p e below QQ (T1.setTop (mkF m 5 #[rv a1, iv p1, iv p2, iv p3] [(.ref a1)]))
  refine Goes.on (fun t k => XS.iloadN X1.here hx rfl (hb hby d1_5) rfl k) ?_
  show Goes p e below QQ (T1.setTop (mkF m 6 #[rv a1, iv p1, iv p2, iv p3] [(.int p1), (.ref a1)]))
  obtain ⟨T2, h2, X2, e2, W2, st2⟩ := putF X1 hx hZ hown (host := "") (Or.inl (hw _ (List.mem_of_getElem? (i := 14) rfl))) Via.refl e1 F_property_a1 E_a1 (Or.inr ⟨(hw _ (List.mem_of_getElem? (i := 15) rfl)), rfl, hnm⟩) (hw _ (List.mem_of_getElem? (i := 1) rfl)) (ty := .int) (by decide) rfl rfl (g := (mkF m 6 #[rv a1, iv p1, iv p2, iv p3] [(.int p1), (.ref a1)])) rfl rfl (hb hby d1_6)
  have E_3 := E_a1.wr W2
  have F_4 := F_subject_a1.other W2 (Or.inr (slot_ne (Or.inr (hw _ (List.mem_of_getElem? (i := 17) rfl))) (Or.inr (hw _ (List.mem_of_getElem? (i := 15) rfl))) (by decide) (t := .int) (t' := .int) (by decide) (by decide)))
  have F_5 := F_object_a1.other W2 (Or.inr (slot_ne (Or.inr (hw _ (List.mem_of_getElem? (i := 19) rfl))) (Or.inr (hw _ (List.mem_of_getElem? (i := 15) rfl))) (by decide) (t := .int) (t' := .int) (by decide) (by decide)))
  have K2 := K0.wr W2 (Or.inl (List.mem_of_getElem? (i := 0) rfl))
  have N2 := Fr.snoc X2 N1 g_a1
  have F_6 := (F_property_a1.same W2 : Fld Z h2 a1 "com/example/clew/clew/algebra/Atom$Statement" "property" "I" (.int p1))
  refine Goes.on (fun t k => st2 t k) ?_
  show Goes p e below QQ (T2.setTop (mkF m 9 #[rv a1, iv p1, iv p2, iv p3] []))
  refine Goes.on (fun t k => XS.aloadN X2.here hx rfl (hb hby d1_9) rfl rfl k) ?_
  show Goes p e below QQ (T2.setTop (mkF m 10 #[rv a1, iv p1, iv p2, iv p3] [(.ref a1)]))
  refine Goes.on (fun t k => XS.iloadN X2.here hx rfl (hb hby d1_10) rfl k) ?_
  show Goes p e below QQ (T2.setTop (mkF m 11 #[rv a1, iv p1, iv p2, iv p3] [(.int p2), (.ref a1)]))
  obtain ⟨T7, h7, X7, e7, W7, st7⟩ := putF X2 hx hZ hown (host := "") (Or.inl (hw _ (List.mem_of_getElem? (i := 16) rfl))) Via.refl e2 F_4 E_3 (Or.inr ⟨(hw _ (List.mem_of_getElem? (i := 17) rfl)), rfl, hnm⟩) (hw _ (List.mem_of_getElem? (i := 1) rfl)) (ty := .int) (by decide) rfl rfl (g := (mkF m 11 #[rv a1, iv p1, iv p2, iv p3] [(.int p2), (.ref a1)])) rfl rfl (hb hby d1_11)
  have E_8 := E_3.wr W7
  have F_9 := F_6.other W7 (Or.inr (slot_ne (Or.inr (hw _ (List.mem_of_getElem? (i := 15) rfl))) (Or.inr (hw _ (List.mem_of_getElem? (i := 17) rfl))) (by decide) (t := .int) (t' := .int) (by decide) (by decide)))
  have F_10 := F_5.other W7 (Or.inr (slot_ne (Or.inr (hw _ (List.mem_of_getElem? (i := 19) rfl))) (Or.inr (hw _ (List.mem_of_getElem? (i := 17) rfl))) (by decide) (t := .int) (t' := .int) (by decide) (by decide)))
  have K7 := K2.wr W7 (Or.inl (List.mem_of_getElem? (i := 0) rfl))
  have N7 := Fr.snoc X7 N2 g_a1
  have F_11 := (F_4.same W7 : Fld Z h7 a1 "com/example/clew/clew/algebra/Atom$Statement" "subject" "I" (.int p2))
  refine Goes.on (fun t k => st7 t k) ?_
  show Goes p e below QQ (T7.setTop (mkF m 14 #[rv a1, iv p1, iv p2, iv p3] []))
  refine Goes.on (fun t k => XS.aloadN X7.here hx rfl (hb hby d1_14) rfl rfl k) ?_
  show Goes p e below QQ (T7.setTop (mkF m 15 #[rv a1, iv p1, iv p2, iv p3] [(.ref a1)]))
  refine Goes.on (fun t k => XS.iloadN X7.here hx rfl (hb hby d1_15) rfl k) ?_
  show Goes p e below QQ (T7.setTop (mkF m 16 #[rv a1, iv p1, iv p2, iv p3] [(.int p3), (.ref a1)]))
  obtain ⟨T12, h12, X12, e12, W12, st12⟩ := putF X7 hx hZ hown (host := "") (Or.inl (hw _ (List.mem_of_getElem? (i := 18) rfl))) Via.refl e7 F_10 E_8 (Or.inr ⟨(hw _ (List.mem_of_getElem? (i := 19) rfl)), rfl, hnm⟩) (hw _ (List.mem_of_getElem? (i := 1) rfl)) (ty := .int) (by decide) rfl rfl (g := (mkF m 16 #[rv a1, iv p1, iv p2, iv p3] [(.int p3), (.ref a1)])) rfl rfl (hb hby d1_16)
  have E_13 := E_8.wr W12
  have F_14 := F_9.other W12 (Or.inr (slot_ne (Or.inr (hw _ (List.mem_of_getElem? (i := 15) rfl))) (Or.inr (hw _ (List.mem_of_getElem? (i := 19) rfl))) (by decide) (t := .int) (t' := .int) (by decide) (by decide)))
  have F_15 := F_11.other W12 (Or.inr (slot_ne (Or.inr (hw _ (List.mem_of_getElem? (i := 17) rfl))) (Or.inr (hw _ (List.mem_of_getElem? (i := 19) rfl))) (by decide) (t := .int) (t' := .int) (by decide) (by decide)))
  have K12 := K7.wr W12 (Or.inl (List.mem_of_getElem? (i := 0) rfl))
  have N12 := Fr.snoc X12 N7 g_a1
  have F_16 := (F_10.same W12 : Fld Z h12 a1 "com/example/clew/clew/algebra/Atom$Statement" "object" "I" (.int p3))
  refine Goes.on (fun t k => st12 t k) ?_
  show Goes p e below QQ (T12.setTop (mkF m 19 #[rv a1, iv p1, iv p2, iv p3] []))
  exact Goes.rV X12 hx hret hlk (hb hby d1_19) hQQ (by rw [e12]; exact ⟨rfl, N12, K12, F_14, F_15, F_16⟩) (by decide) (by decide)
theorem d4_0 : decode prog_13_method_2_code 0 = .ok (.iconst 3, 1) := by decide +kernel
theorem d4_1 : decode prog_13_method_2_code 1 = .ok (.newarray .int, 2) := by decide +kernel
theorem d4_3 : decode prog_13_method_2_code 3 = .ok (.dup, 1) := by decide +kernel
theorem d4_4 : decode prog_13_method_2_code 4 = .ok (.iconst 0, 1) := by decide +kernel
theorem d4_5 : decode prog_13_method_2_code 5 = .ok (.aload_n 0, 1) := by decide +kernel
theorem d4_6 : decode prog_13_method_2_code 6 = .ok (.getfield 7, 3) := by decide +kernel
theorem d4_9 : decode prog_13_method_2_code 9 = .ok (.iastore, 1) := by decide +kernel
theorem d4_10 : decode prog_13_method_2_code 10 = .ok (.dup, 1) := by decide +kernel
theorem d4_11 : decode prog_13_method_2_code 11 = .ok (.iconst 1, 1) := by decide +kernel
theorem d4_12 : decode prog_13_method_2_code 12 = .ok (.aload_n 0, 1) := by decide +kernel
theorem d4_13 : decode prog_13_method_2_code 13 = .ok (.getfield 13, 3) := by decide +kernel
theorem d4_16 : decode prog_13_method_2_code 16 = .ok (.iastore, 1) := by decide +kernel
theorem d4_17 : decode prog_13_method_2_code 17 = .ok (.dup, 1) := by decide +kernel
theorem d4_18 : decode prog_13_method_2_code 18 = .ok (.iconst 2, 1) := by decide +kernel
theorem d4_19 : decode prog_13_method_2_code 19 = .ok (.aload_n 0, 1) := by decide +kernel
theorem d4_20 : decode prog_13_method_2_code 20 = .ok (.getfield 16, 3) := by decide +kernel
theorem d4_23 : decode prog_13_method_2_code 23 = .ok (.iastore, 1) := by decide +kernel
theorem d4_24 : decode prog_13_method_2_code 24 = .ok (.areturn, 1) := by decide +kernel
theorem pn_4 : plainFor (⟨"com/example/clew/clew/algebra/Atom$Statement", "variables", "()[I"⟩ : MethodName) = true := plainFor_of_name (show plainName "com/example/clew/clew/algebra/Atom$Statement" = true by first | (simp [plainName, overriddenIn]; done) | decide +kernel)
theorem ef_rm2 (m : MethodId) (x0 : Addr) : entryFrame m #[(.ref x0)] 1 = mkF m 0 #[rv x0] [] := by first | (simp [entryFrame, mkF, argsToLocals, Value.category]; done) | rfl
set_option maxRecDepth 65536 in
set_option maxHeartbeats 40000000 in
theorem rm2 (l : Launch) (Z : State) (a0 : Array Value) (hw : ∀ d ∈ tables_1, d.before a0 Z = true) (ws : List Jvm.Cond) (a1 : Addr) (p1 p2 p3 : Int32) (h0 : Heap) (n0 : Nat) (Z0 : n0 ≤ h0.size) (F_property_a1 : Fld Z h0 a1 "com/example/clew/clew/algebra/Atom$Statement" "property" "I" (.int p1)) (F_subject_a1 : Fld Z h0 a1 "com/example/clew/clew/algebra/Atom$Statement" "subject" "I" (.int p2)) (F_object_a1 : Fld Z h0 a1 "com/example/clew/clew/algebra/Atom$Statement" "object" "I" (.int p3)) :
    MetFree l (⟨"com/example/clew/clew/algebra/Atom$Statement", "variables", "()[I"⟩ : MethodName) (head1 (Jvm.Cond.code (⟨"com/example/clew/clew/algebra/Atom$Statement", "variables", "()[I"⟩ : MethodName) prog_13_method_2_code 1 (some (.array .int)) :: ws) ({ frames := 0, cells := 1, slots := 3, locals := 0 } : Room)) (fun a U => a = #[(.ref a1)] ∧ Z.Warmed39 U.vm ∧ U.heap = h0) (fun _ _ _ _ _ => True) (fun _ U o U' => ∃ v L, o = .returned v ∧ QA Z p1 p2 p3 h0 n0 v U'.heap L ∧ FrameEnd U o U' L ({ frames := 0, cells := 1, slots := 3, locals := 0 } : Room).cells ({ frames := 0, cells := 1, slots := 3, locals := 0 } : Room).slots) := by
  refine own_enter pn_4 ?_
  intro p e s m below meth c s₁ QQ hQQ hx hby hml hown hnm hret hlk hZ X0 e0
  have hown : s.vm.findClass "com/example/clew/clew/algebra/Atom$Statement" = some m.cls := hown
  have hml : c.maxLocals = 1 := hml
  have hret : meth.sig.returnType = some (.array .int) := hret
  have N0 := Fr.nil n0
  have K0 := Keep.refl h0 []
  refine Goes.cast (ef_rm2 m a1) ?_
  show Goes p e below QQ (s₁.setTop (mkF m 0 #[rv a1] []))
  refine Goes.on (fun t k => XS.iconst X0.here hx rfl (hb hby d4_0) k) ?_
  show Goes p e below QQ (s₁.setTop (mkF m 1 #[rv a1] [(.int 3)]))
  obtain ⟨T1, h1, k1, X1, e1, E1, A1, st1⟩ := newP X0 hx hZ (hw _ (List.mem_of_getElem? (i := 25) rfl)) e0 (g := (mkF m 1 #[rv a1] [(.int 3)])) rfl (hb hby d4_1) rfl (by decide) (cap := 3) (by decide) (by decide) (by decide) (by decide)
  obtain ⟨b1, g1⟩ : ∃ z, z = h0.size := ⟨_, rfl⟩
  rw [← g1] at A1 st1
  have sz_b1 : h0.size ≤ b1 := Nat.le_trans K0.1 (Nat.le_of_eq g1.symm)
  have g_b1 : n0 ≤ b1 := Nat.le_trans Z0 sz_b1
  have ne_a1_b1 : a1 ≠ b1 := Nat.ne_of_lt (Nat.lt_of_lt_of_le F_property_a1.lt (Nat.le_of_eq g1.symm))
  have F_2 := F_property_a1.ext E1
  have F_3 := F_subject_a1.ext E1
  have F_4 := F_object_a1.ext E1
  have K1 := K0.ext E1
  have V_5 : Arv Z h1 b1 k1 .int (3 : Int32) [(.int 0), (.int 0), (.int 0)] (.int 0) := (Arv.new A1 (by decide)).pad (pad_rep [] (.int 0) 3)
  refine Goes.on (fun t k => st1 t k) ?_
  show Goes p e below QQ (T1.setTop (mkF m 3 #[rv a1] [(.ref b1)]))
  refine Goes.on (fun t k => XS.dup X1.here hx rfl (hb hby d4_3) rfl rfl k) ?_
  show Goes p e below QQ (T1.setTop (mkF m 4 #[rv a1] [(.ref b1), (.ref b1)]))
  refine Goes.on (fun t k => XS.iconst X1.here hx rfl (hb hby d4_4) k) ?_
  show Goes p e below QQ (T1.setTop (mkF m 5 #[rv a1] [(.int 0), (.ref b1), (.ref b1)]))
  refine Goes.on (fun t k => XS.aloadN X1.here hx rfl (hb hby d4_5) rfl rfl k) ?_
  show Goes p e below QQ (T1.setTop (mkF m 6 #[rv a1] [(.ref a1), (.int 0), (.ref b1), (.ref b1)]))
  obtain ⟨T6, X6, e6, st6⟩ := getF X1 hx hZ hown (host := "") (Or.inl (hw _ (List.mem_of_getElem? (i := 14) rfl))) Via.refl e1 F_2 (g := (mkF m 6 #[rv a1] [(.ref a1), (.int 0), (.ref b1), (.ref b1)])) rfl rfl (hb hby d4_6)
  refine Goes.on (fun t k => st6 t k) ?_
  show Goes p e below QQ (T6.setTop (mkF m 9 #[rv a1] [(.int p1), (.int 0), (.ref b1), (.ref b1)]))
  obtain ⟨cl7, Ar7, q7, S7, N7z, H7, G7⟩ := id V_5
  have hin7 := inb_of (j := (0 : Int32)) S7 ⟨by decide, by decide⟩
  obtain ⟨T8, h8, X8, e8, W8, st8⟩ := stI X6 hx hZ e6 Ar7 (j := (0 : Int32)) hin7 (g := (mkF m 9 #[rv a1] [(.int p1), (.int 0), (.ref b1), (.ref b1)])) rfl rfl (hb hby d4_9)
  have F_9 := F_2.other W8 (Or.inl ne_a1_b1)
  have F_10 := F_3.other W8 (Or.inl ne_a1_b1)
  have F_11 := F_4.other W8 (Or.inl ne_a1_b1)
  have K8 := K1.wr W8 (Or.inr sz_b1)
  have N8 := Fr.snoc X8 N0 g_b1
  have V_12 := (Arv.set Ar7 q7 S7 N7z H7 G7 rfl W8 0 rfl (Nat.le_of_ble_eq_true rfl) : Arv Z h8 b1 k1 .int (3 : Int32) [(.int p1), (.int 0), (.int 0)] (.int 0))
  refine Goes.on (fun t k => st8 t k) ?_
  show Goes p e below QQ (T8.setTop (mkF m 10 #[rv a1] [(.ref b1)]))
  refine Goes.on (fun t k => XS.dup X8.here hx rfl (hb hby d4_10) rfl rfl k) ?_
  show Goes p e below QQ (T8.setTop (mkF m 11 #[rv a1] [(.ref b1), (.ref b1)]))
  refine Goes.on (fun t k => XS.iconst X8.here hx rfl (hb hby d4_11) k) ?_
  show Goes p e below QQ (T8.setTop (mkF m 12 #[rv a1] [(.int 1), (.ref b1), (.ref b1)]))
  refine Goes.on (fun t k => XS.aloadN X8.here hx rfl (hb hby d4_12) rfl rfl k) ?_
  show Goes p e below QQ (T8.setTop (mkF m 13 #[rv a1] [(.ref a1), (.int 1), (.ref b1), (.ref b1)]))
  obtain ⟨T13, X13, e13, st13⟩ := getF X8 hx hZ hown (host := "") (Or.inl (hw _ (List.mem_of_getElem? (i := 16) rfl))) Via.refl e8 F_10 (g := (mkF m 13 #[rv a1] [(.ref a1), (.int 1), (.ref b1), (.ref b1)])) rfl rfl (hb hby d4_13)
  refine Goes.on (fun t k => st13 t k) ?_
  show Goes p e below QQ (T13.setTop (mkF m 16 #[rv a1] [(.int p2), (.int 1), (.ref b1), (.ref b1)]))
  obtain ⟨cl14, Ar14, q14, S14, N14z, H14, G14⟩ := id V_12
  have hin14 := inb_of (j := (1 : Int32)) S14 ⟨by decide, by decide⟩
  obtain ⟨T15, h15, X15, e15, W15, st15⟩ := stI X13 hx hZ e13 Ar14 (j := (1 : Int32)) hin14 (g := (mkF m 16 #[rv a1] [(.int p2), (.int 1), (.ref b1), (.ref b1)])) rfl rfl (hb hby d4_16)
  have F_16 := F_9.other W15 (Or.inl ne_a1_b1)
  have F_17 := F_10.other W15 (Or.inl ne_a1_b1)
  have F_18 := F_11.other W15 (Or.inl ne_a1_b1)
  have K15 := K8.wr W15 (Or.inr sz_b1)
  have N15 := Fr.snoc X15 N8 g_b1
  have V_19 := (Arv.set Ar14 q14 S14 N14z H14 G14 rfl W15 1 rfl (Nat.le_of_ble_eq_true rfl) : Arv Z h15 b1 k1 .int (3 : Int32) [(.int p1), (.int p2), (.int 0)] (.int 0))
  refine Goes.on (fun t k => st15 t k) ?_
  show Goes p e below QQ (T15.setTop (mkF m 17 #[rv a1] [(.ref b1)]))
  refine Goes.on (fun t k => XS.dup X15.here hx rfl (hb hby d4_17) rfl rfl k) ?_
  show Goes p e below QQ (T15.setTop (mkF m 18 #[rv a1] [(.ref b1), (.ref b1)]))
  refine Goes.on (fun t k => XS.iconst X15.here hx rfl (hb hby d4_18) k) ?_
  show Goes p e below QQ (T15.setTop (mkF m 19 #[rv a1] [(.int 2), (.ref b1), (.ref b1)]))
  refine Goes.on (fun t k => XS.aloadN X15.here hx rfl (hb hby d4_19) rfl rfl k) ?_
  show Goes p e below QQ (T15.setTop (mkF m 20 #[rv a1] [(.ref a1), (.int 2), (.ref b1), (.ref b1)]))
  obtain ⟨T20, X20, e20, st20⟩ := getF X15 hx hZ hown (host := "") (Or.inl (hw _ (List.mem_of_getElem? (i := 18) rfl))) Via.refl e15 F_18 (g := (mkF m 20 #[rv a1] [(.ref a1), (.int 2), (.ref b1), (.ref b1)])) rfl rfl (hb hby d4_20)
  refine Goes.on (fun t k => st20 t k) ?_
  show Goes p e below QQ (T20.setTop (mkF m 23 #[rv a1] [(.int p3), (.int 2), (.ref b1), (.ref b1)]))
  obtain ⟨cl21, Ar21, q21, S21, N21z, H21, G21⟩ := id V_19
  have hin21 := inb_of (j := (2 : Int32)) S21 ⟨by decide, by decide⟩
  obtain ⟨T22, h22, X22, e22, W22, st22⟩ := stI X20 hx hZ e20 Ar21 (j := (2 : Int32)) hin21 (g := (mkF m 23 #[rv a1] [(.int p3), (.int 2), (.ref b1), (.ref b1)])) rfl rfl (hb hby d4_23)
  have F_23 := F_16.other W22 (Or.inl ne_a1_b1)
  have F_24 := F_17.other W22 (Or.inl ne_a1_b1)
  have F_25 := F_18.other W22 (Or.inl ne_a1_b1)
  have K22 := K15.wr W22 (Or.inr sz_b1)
  have N22 := Fr.snoc X22 N15 g_b1
  have V_26 := (Arv.set Ar21 q21 S21 N21z H21 G21 rfl W22 2 rfl (Nat.le_of_ble_eq_true rfl) : Arv Z h22 b1 k1 .int (3 : Int32) [(.int p1), (.int p2), (.int p3)] (.int 0))
  refine Goes.on (fun t k => st22 t k) ?_
  show Goes p e below QQ (T22.setTop (mkF m 24 #[rv a1] [(.ref b1)]))
  exact Goes.rA X22 hx hret rfl rfl hlk (hb hby d4_24) hQQ (by rw [e22]; exact ⟨b1, k1, rfl, N22, K22, sz_b1, V_26⟩) (by decide) (by decide)
theorem pn_0 : plainFor x = true := plainFor_of_name (show plainName "com/example/clew/clew/algebra/StatementVariablesPinLaw" = true by first | (simp [plainName, overriddenIn]; done) | decide +kernel)
theorem ef_rm0 (m : MethodId) (x0 : Int32) (x1 : Int32) (x2 : Int32) : entryFrame m #[(.int x0), (.int x1), (.int x2)] maxLocals = mkF m 0 #[iv x0, iv x1, iv x2, .unset, .unset, .unset, .unset] [] := by first | (simp [entryFrame, mkF, argsToLocals, Value.category, maxLocals]; done) | rfl
theorem pd_1 : parseMethodDescriptor "(III)V" = some ⟨[.int, .int, .int], none⟩ := by decide +kernel
theorem pd_2 : parseMethodDescriptor "()[I" = some ⟨[], some (.array .int)⟩ := by decide +kernel
set_option maxRecDepth 65536 in
set_option maxHeartbeats 40000000 in
theorem rm0 (l : Launch) (Z : State) (a0 : Array Value) (hw : ∀ d ∈ tables_1, d.before a0 Z = true) (ws : List Jvm.Cond) (p1 p2 p3 : Int32) (h0 : Heap) (n0 : Nat) (Z0 : n0 ≤ h0.size)  :
    MetFree l x (head1 (Jvm.Cond.code x code maxLocals ret :: ws) room_1) (fun a U => a = #[(.int p1), (.int p2), (.int p3)] ∧ Z.Warmed39 U.vm ∧ U.heap = h0) (fun _ _ _ _ _ => True) (fun _ U o U' => ∃ v L, o = .returned v ∧ QL n0 v U'.heap L ∧ FrameEnd U o U' L 16 128) := by
  refine own_enter pn_0 ?_
  intro p e s m below meth c s₁ QQ hQQ hx hby hml hown hnm hret hlk hZ X0 e0
  have hown : s.vm.findClass "com/example/clew/clew/algebra/StatementVariablesPinLaw" = some m.cls := hown
  have hml : c.maxLocals = 7 := hml
  have hret : meth.sig.returnType = some .boolean := hret
  have N0 := Fr.nil n0
  have K0 := Keep.refl h0 []
  refine Goes.cast (ef_rm0 m p1 p2 p3) ?_
  show Goes p e below QQ (s₁.setTop (mkF m 0 #[iv p1, iv p2, iv p3, .unset, .unset, .unset, .unset] []))
  obtain ⟨T1, h1, X1, e1, E1, A1, D1, -, st1⟩ := newO X0 hx hZ hown (hw _ (List.mem_of_getElem? (i := 0) rfl)) (hw _ (List.mem_of_getElem? (i := 1) rfl)) (hw _ (List.mem_of_getElem? (i := 2) rfl)) e0 (g := (mkF m 0 #[iv p1, iv p2, iv p3, .unset, .unset, .unset, .unset] [])) rfl (hb hby at_0) (by decide) (by decide)
  obtain ⟨b1, g1⟩ : ∃ z, z = h0.size := ⟨_, rfl⟩
  rw [← g1] at A1 D1 st1
  have sz_b1 : h0.size ≤ b1 := Nat.le_trans K0.1 (Nat.le_of_eq g1.symm)
  have g_b1 : n0 ≤ b1 := Nat.le_trans Z0 sz_b1
  have K1 := K0.ext E1
  have F_2 : Fld Z h1 b1 "com/example/clew/clew/algebra/Atom$Statement" "property" "I" (.int 0) := D1 (Or.inr (hw _ (List.mem_of_getElem? (i := 15) rfl))) (ty := .int) (by decide)
  have F_3 : Fld Z h1 b1 "com/example/clew/clew/algebra/Atom$Statement" "subject" "I" (.int 0) := D1 (Or.inr (hw _ (List.mem_of_getElem? (i := 17) rfl))) (ty := .int) (by decide)
  have F_4 : Fld Z h1 b1 "com/example/clew/clew/algebra/Atom$Statement" "object" "I" (.int 0) := D1 (Or.inr (hw _ (List.mem_of_getElem? (i := 19) rfl))) (ty := .int) (by decide)
  refine Goes.on (fun t k => st1 t k) ?_
  show Goes p e below QQ (T1.setTop (mkF m 3 #[iv p1, iv p2, iv p3, .unset, .unset, .unset, .unset] [(.ref b1)]))
  refine Goes.on (fun t k => XS.dup X1.here hx rfl (hb hby at_3) rfl rfl k) ?_
  show Goes p e below QQ (T1.setTop (mkF m 4 #[iv p1, iv p2, iv p3, .unset, .unset, .unset, .unset] [(.ref b1), (.ref b1)]))
  refine Goes.on (fun t k => XS.iloadN X1.here hx rfl (hb hby at_4) rfl k) ?_
  show Goes p e below QQ (T1.setTop (mkF m 5 #[iv p1, iv p2, iv p3, .unset, .unset, .unset, .unset] [(.int p1), (.ref b1), (.ref b1)]))
  refine Goes.on (fun t k => XS.iloadN X1.here hx rfl (hb hby at_5) rfl k) ?_
  show Goes p e below QQ (T1.setTop (mkF m 6 #[iv p1, iv p2, iv p3, .unset, .unset, .unset, .unset] [(.int p2), (.int p1), (.ref b1), (.ref b1)]))
  refine Goes.on (fun t k => XS.iloadN X1.here hx rfl (hb hby at_6) rfl k) ?_
  show Goes p e below QQ (T1.setTop (mkF m 7 #[iv p1, iv p2, iv p3, .unset, .unset, .unset, .unset] [(.int p3), (.int p2), (.int p1), (.ref b1), (.ref b1)]))
  obtain ⟨_, _, ⟨T5, L5, k5, n5⟩, -, X5, ⟨Lc5, hQ5, l5, y5, z5⟩, st5⟩ := X1.specialBack hx (y := (⟨"com/example/clew/clew/algebra/Atom$Statement", "<init>", "(III)V"⟩ : MethodName)) rfl hown (mvT hZ (hw _ (List.mem_of_getElem? (i := 3) rfl))) (mvT hZ (hw _ (List.mem_of_getElem? (i := 4) rfl))) (mvT hZ (hw _ (List.mem_of_getElem? (i := 5) rfl))) (by decide) (backOf (W := 1) (rm1 l Z a0 hw [] b1 p1 p2 p3 h1 n0 (Nat.le_trans Z0 K1.1) A1 F_2 F_3 F_4 g_b1) hZ (hw _ (List.mem_of_getElem? (i := 5) rfl)) (hw _ (List.mem_of_getElem? (i := 2) rfl)) (by decide) (by decide)) (g := (mkF m 7 #[iv p1, iv p2, iv p3, .unset, .unset, .unset, .unset] [(.int p3), (.int p2), (.int p1), (.ref b1), (.ref b1)])) rfl (by rw [hml]; rfl) (Steps.refl _) (a := b1) (argsL := [(.int p1), (.int p2), (.int p3)]) (rest := [(.ref b1)]) (lenOf pd_1 rfl) rfl (by show 2 * 0 + _ ≤ _; exact Nat.le_of_eq rfl) (hb hby at_7) (fun _ _ => ⟨rfl, e1, (by decide : 1 + 0 ≤ _), (by decide : 3 + 0 ≤ _)⟩)
  dsimp only [Pt.U, Pt.locs, Pt.cells, Pt.slots] at X5 l5 y5 z5 st5 hQ5
  subst l5 y5 z5
  obtain ⟨rfl, M5, Kc, Fa, Fb, Fc⟩ := hQ5
  have N5 := Fr.app N0 M5
  refine Goes.on (fun t k => st5.trans k) ?_
  have A1_6 := A1.keep Kc
  have K10 := K1.trans Kc (allS (Or.inr sz_b1) all0)
  show Goes p e below QQ (T5.setTop (mkF m 10 #[iv p1, iv p2, iv p3, .unset, .unset, .unset, .unset] [(.ref b1)]))
  refine Goes.on (fun t k => XS.astoreN X5.here hx rfl (hb hby at_10) rfl rfl (l' := #[iv p1, iv p2, iv p3, rv b1, .unset, .unset, .unset]) rfl k) ?_
  show Goes p e below QQ (T5.setTop (mkF m 11 #[iv p1, iv p2, iv p3, rv b1, .unset, .unset, .unset] []))
  refine Goes.on (fun t k => XS.aloadN X5.here hx rfl (hb hby at_11) rfl rfl k) ?_
  show Goes p e below QQ (T5.setTop (mkF m 12 #[iv p1, iv p2, iv p3, rv b1, .unset, .unset, .unset] [(.ref b1)]))
  obtain ⟨cq11, kq11, q11a, q11b, q11c⟩ := isOf hZ rfl A1_6
  obtain ⟨_, _, ⟨T11, L11, k11, n11⟩, -, X11, ⟨Lc11, hQ11, l11, y11, z11⟩, st11⟩ := X5.virtualBack hx (y := (⟨"com/example/clew/clew/algebra/Atom$Statement", "variables", "()[I"⟩ : MethodName)) (z := (⟨"com/example/clew/clew/algebra/Atom$Statement", "variables", "()[I"⟩ : MethodName)) hown (mvT hZ (hw _ (List.mem_of_getElem? (i := 20) rfl))) (mvT hZ (hw _ (List.mem_of_getElem? (i := 21) rfl))) (notFace_of_selects (args := #[]) (mvT hZ (hw _ (List.mem_of_getElem? (i := 23) rfl)))) (mvT hZ (hw _ (List.mem_of_getElem? (i := 23) rfl))) (mvT hZ (hw _ (List.mem_of_getElem? (i := 22) rfl))) (by decide) (backOf (W := 0) (rm2 l Z a0 hw [] b1 p1 p2 p3 T5.heap n0 (Nat.le_trans Z0 K10.1) Fa Fb Fc) hZ (hw _ (List.mem_of_getElem? (i := 24) rfl)) (hw _ (List.mem_of_getElem? (i := 2) rfl)) (by decide) (by decide)) q11a q11c (g := (mkF m 12 #[iv p1, iv p2, iv p3, rv b1, .unset, .unset, .unset] [(.ref b1)])) rfl (by rw [hml]; rfl) (Steps.refl _) (argsL := []) (rest := []) (lenOf pd_2 rfl) rfl (by show 2 * 0 + _ ≤ _; exact Nat.le_of_eq rfl) (hb hby at_12) (fun _ _ => ⟨rfl, rfl, (by decide : 1 + 1 ≤ _), (by decide : 3 + 3 ≤ _)⟩)
  dsimp only [Pt.U, Pt.locs, Pt.cells, Pt.slots] at X11 l11 y11 z11 st11 hQ11
  subst l11 y11 z11
  obtain ⟨b11, kb11, rfl, M11, Kc11, sz11, V_11⟩ := hQ11
  have sz_b11 : h0.size ≤ b11 := Nat.le_trans K10.1 sz11
  have g_b11 : n0 ≤ b11 := Nat.le_trans Z0 sz_b11
  have ne_b1_b11 : b1 ≠ b11 := Nat.ne_of_lt (Nat.lt_of_lt_of_le A1_6.lt sz11)
  have N11 := Fr.app N5 M11
  refine Goes.on (fun t k => st11.trans k) ?_
  have A1_12 := A1_6.keep Kc11
  have Fa_13 := Fa.keep Kc11 nin0
  have Fb_14 := Fb.keep Kc11 nin0
  have Fc_15 := Fc.keep Kc11 nin0
  have K16 := K10.trans Kc11 all0
  show Goes p e below QQ (T11.setTop (mkF m 15 #[iv p1, iv p2, iv p3, rv b1, .unset, .unset, .unset] [(.ref b11)]))
  refine Goes.on (fun t k => XS.astore X11.here hx rfl (hb hby at_15) rfl rfl (l' := #[iv p1, iv p2, iv p3, rv b1, rv b11, .unset, .unset]) rfl k) ?_
  show Goes p e below QQ (T11.setTop (mkF m 17 #[iv p1, iv p2, iv p3, rv b1, rv b11, .unset, .unset] []))
  refine Goes.on (fun t k => XS.aload X11.here hx rfl (hb hby at_17) rfl rfl k) ?_
  show Goes p e below QQ (T11.setTop (mkF m 19 #[iv p1, iv p2, iv p3, rv b1, rv b11, .unset, .unset] [(.ref b11)]))
  refine Goes.on (fun t k => XS.ifnullNo X11.here hx rfl (hb hby at_19) rfl k) ?_
  show Goes p e below QQ (T11.setTop (mkF m 22 #[iv p1, iv p2, iv p3, rv b1, rv b11, .unset, .unset] []))
  refine Goes.on (fun t k => XS.aload X11.here hx rfl (hb hby at_22) rfl rfl k) ?_
  show Goes p e below QQ (T11.setTop (mkF m 24 #[iv p1, iv p2, iv p3, rv b1, rv b11, .unset, .unset] [(.ref b11)]))
  obtain ⟨cl17, Ar17, q17, S17, N17z, H17, G17⟩ := id V_11
  refine Goes.on (fun t k => X11.arraylength hx Ar17.1 (State.isArrayOf_alike hZ.alike Ar17.2.1) (g := (mkF m 24 #[iv p1, iv p2, iv p3, rv b1, rv b11, .unset, .unset] [(.ref b11)])) rfl rfl (hb hby at_24) t k) ?_
  rw [len_of S17 N17z]
  show Goes p e below QQ (T11.setTop (mkF m 25 #[iv p1, iv p2, iv p3, rv b1, rv b11, .unset, .unset] [(.int 3)]))
  refine Goes.on (fun t k => XS.iconst X11.here hx rfl (hb hby at_25) k) ?_
  show Goes p e below QQ (T11.setTop (mkF m 26 #[iv p1, iv p2, iv p3, rv b1, rv b11, .unset, .unset] [(.int 3), (.int 3)]))
  refine Goes.on (fun t k => XS.icmpYes X11.here hx rfl (pc0 := 26) (pc' := 31) rfl (hb hby at_26) rfl (teq (by decide)).1 (by decide) (by decide) k) ?_
  show Goes p e below QQ (T11.setTop (mkF m 31 #[iv p1, iv p2, iv p3, rv b1, rv b11, .unset, .unset] []))
  refine Goes.on (fun t k => XS.aload X11.here hx rfl (hb hby at_31) rfl rfl k) ?_
  show Goes p e below QQ (T11.setTop (mkF m 33 #[iv p1, iv p2, iv p3, rv b1, rv b11, .unset, .unset] [(.ref b11)]))
  refine Goes.on (fun t k => XS.iconst X11.here hx rfl (hb hby at_33) k) ?_
  show Goes p e below QQ (T11.setTop (mkF m 34 #[iv p1, iv p2, iv p3, rv b1, rv b11, .unset, .unset] [(.int 0), (.ref b11)]))
  obtain ⟨cl18, Ar18, q18, S18, N18z, H18, G18⟩ := id V_11
  have hin18 := inb_of (j := (0 : Int32)) S18 ⟨by decide, by decide⟩
  have hat18 := Has.at (v := (.int p1)) H18 hin18 rfl
  refine Goes.on (fun t k => X11.iaload hx (j := (0 : Int32)) (v := (.int p1)) Ar18.1 (State.isArrayOf_alike hZ.alike Ar18.2.1) Ar18.2.2 hin18 hat18 (g := (mkF m 34 #[iv p1, iv p2, iv p3, rv b1, rv b11, .unset, .unset] [(.int 0), (.ref b11)])) rfl rfl (hb hby at_34) t k) ?_
  show Goes p e below QQ (T11.setTop (mkF m 35 #[iv p1, iv p2, iv p3, rv b1, rv b11, .unset, .unset] [(.int p1)]))
  refine Goes.on (fun t k => XS.iloadN X11.here hx rfl (hb hby at_35) rfl k) ?_
  show Goes p e below QQ (T11.setTop (mkF m 36 #[iv p1, iv p2, iv p3, rv b1, rv b11, .unset, .unset] [(.int p1), (.int p1)]))
  refine Goes.on (fun t k => XS.icmpNo X11.here hx rfl (hb hby at_36) rfl (teq (rfl : p1 = p1)).2 k) ?_
  show Goes p e below QQ (T11.setTop (mkF m 39 #[iv p1, iv p2, iv p3, rv b1, rv b11, .unset, .unset] []))
  refine Goes.on (fun t k => XS.aload X11.here hx rfl (hb hby at_39) rfl rfl k) ?_
  show Goes p e below QQ (T11.setTop (mkF m 41 #[iv p1, iv p2, iv p3, rv b1, rv b11, .unset, .unset] [(.ref b11)]))
  refine Goes.on (fun t k => XS.iconst X11.here hx rfl (hb hby at_41) k) ?_
  show Goes p e below QQ (T11.setTop (mkF m 42 #[iv p1, iv p2, iv p3, rv b1, rv b11, .unset, .unset] [(.int 1), (.ref b11)]))
  obtain ⟨cl19, Ar19, q19, S19, N19z, H19, G19⟩ := id V_11
  have hin19 := inb_of (j := (1 : Int32)) S19 ⟨by decide, by decide⟩
  have hat19 := Has.at (v := (.int p2)) H19 hin19 rfl
  refine Goes.on (fun t k => X11.iaload hx (j := (1 : Int32)) (v := (.int p2)) Ar19.1 (State.isArrayOf_alike hZ.alike Ar19.2.1) Ar19.2.2 hin19 hat19 (g := (mkF m 42 #[iv p1, iv p2, iv p3, rv b1, rv b11, .unset, .unset] [(.int 1), (.ref b11)])) rfl rfl (hb hby at_42) t k) ?_
  show Goes p e below QQ (T11.setTop (mkF m 43 #[iv p1, iv p2, iv p3, rv b1, rv b11, .unset, .unset] [(.int p2)]))
  refine Goes.on (fun t k => XS.iloadN X11.here hx rfl (hb hby at_43) rfl k) ?_
  show Goes p e below QQ (T11.setTop (mkF m 44 #[iv p1, iv p2, iv p3, rv b1, rv b11, .unset, .unset] [(.int p2), (.int p2)]))
  refine Goes.on (fun t k => XS.icmpNo X11.here hx rfl (hb hby at_44) rfl (teq (rfl : p2 = p2)).2 k) ?_
  show Goes p e below QQ (T11.setTop (mkF m 47 #[iv p1, iv p2, iv p3, rv b1, rv b11, .unset, .unset] []))
  refine Goes.on (fun t k => XS.aload X11.here hx rfl (hb hby at_47) rfl rfl k) ?_
  show Goes p e below QQ (T11.setTop (mkF m 49 #[iv p1, iv p2, iv p3, rv b1, rv b11, .unset, .unset] [(.ref b11)]))
  refine Goes.on (fun t k => XS.iconst X11.here hx rfl (hb hby at_49) k) ?_
  show Goes p e below QQ (T11.setTop (mkF m 50 #[iv p1, iv p2, iv p3, rv b1, rv b11, .unset, .unset] [(.int 2), (.ref b11)]))
  obtain ⟨cl20, Ar20, q20, S20, N20z, H20, G20⟩ := id V_11
  have hin20 := inb_of (j := (2 : Int32)) S20 ⟨by decide, by decide⟩
  have hat20 := Has.at (v := (.int p3)) H20 hin20 rfl
  refine Goes.on (fun t k => X11.iaload hx (j := (2 : Int32)) (v := (.int p3)) Ar20.1 (State.isArrayOf_alike hZ.alike Ar20.2.1) Ar20.2.2 hin20 hat20 (g := (mkF m 50 #[iv p1, iv p2, iv p3, rv b1, rv b11, .unset, .unset] [(.int 2), (.ref b11)])) rfl rfl (hb hby at_50) t k) ?_
  show Goes p e below QQ (T11.setTop (mkF m 51 #[iv p1, iv p2, iv p3, rv b1, rv b11, .unset, .unset] [(.int p3)]))
  refine Goes.on (fun t k => XS.iloadN X11.here hx rfl (hb hby at_51) rfl k) ?_
  show Goes p e below QQ (T11.setTop (mkF m 52 #[iv p1, iv p2, iv p3, rv b1, rv b11, .unset, .unset] [(.int p3), (.int p3)]))
  refine Goes.on (fun t k => XS.icmpNo X11.here hx rfl (hb hby at_52) rfl (teq (rfl : p3 = p3)).2 k) ?_
  show Goes p e below QQ (T11.setTop (mkF m 55 #[iv p1, iv p2, iv p3, rv b1, rv b11, .unset, .unset] []))
  refine Goes.on (fun t k => XS.iconst X11.here hx rfl (hb hby at_55) k) ?_
  show Goes p e below QQ (T11.setTop (mkF m 56 #[iv p1, iv p2, iv p3, rv b1, rv b11, .unset, .unset] [(.int 1)]))
  refine Goes.on (fun t k => XS.goto X11.here hx rfl (pc0 := 56) (pc' := 60) rfl (hb hby at_56) (by decide) (by decide) k) ?_
  show Goes p e below QQ (T11.setTop (mkF m 60 #[iv p1, iv p2, iv p3, rv b1, rv b11, .unset, .unset] [(.int 1)]))
  refine Goes.on (fun t k => XS.istore X11.here hx rfl (hb hby at_60) rfl (l' := #[iv p1, iv p2, iv p3, rv b1, rv b11, iv 1, .unset]) rfl k) ?_
  show Goes p e below QQ (T11.setTop (mkF m 62 #[iv p1, iv p2, iv p3, rv b1, rv b11, iv 1, .unset] []))
  refine Goes.on (fun t k => XS.aload X11.here hx rfl (hb hby at_62) rfl rfl k) ?_
  show Goes p e below QQ (T11.setTop (mkF m 64 #[iv p1, iv p2, iv p3, rv b1, rv b11, iv 1, .unset] [(.ref b11)]))
  refine Goes.on (fun t k => XS.iconst X11.here hx rfl (hb hby at_64) k) ?_
  show Goes p e below QQ (T11.setTop (mkF m 65 #[iv p1, iv p2, iv p3, rv b1, rv b11, iv 1, .unset] [(.int 0), (.ref b11)]))
  refine Goes.on (fun t k => XS.iloadN X11.here hx rfl (hb hby at_65) rfl k) ?_
  show Goes p e below QQ (T11.setTop (mkF m 66 #[iv p1, iv p2, iv p3, rv b1, rv b11, iv 1, .unset] [(.int p1), (.int 0), (.ref b11)]))
  refine Goes.on (fun t k => XS.iconst X11.here hx rfl (hb hby at_66) k) ?_
  show Goes p e below QQ (T11.setTop (mkF m 67 #[iv p1, iv p2, iv p3, rv b1, rv b11, iv 1, .unset] [(.int (-1)), (.int p1), (.int 0), (.ref b11)]))
  refine Goes.on (fun t k => XS.ixor X11.here hx rfl (hb hby at_67) rfl k) ?_
  show Goes p e below QQ (T11.setTop (mkF m 68 #[iv p1, iv p2, iv p3, rv b1, rv b11, iv 1, .unset] [(.int (p1 ^^^ (-1 : Int32))), (.int 0), (.ref b11)]))
  obtain ⟨cl21, Ar21, q21, S21, N21z, H21, G21⟩ := id V_11
  have hin21 := inb_of (j := (0 : Int32)) S21 ⟨by decide, by decide⟩
  obtain ⟨T22, h22, X22, e22, W22, st22⟩ := stI X11 hx hZ rfl Ar21 (j := (0 : Int32)) hin21 (g := (mkF m 68 #[iv p1, iv p2, iv p3, rv b1, rv b11, iv 1, .unset] [(.int (p1 ^^^ (-1 : Int32))), (.int 0), (.ref b11)])) rfl rfl (hb hby at_68)
  have A1_23 := A1_12.wr W22
  have Fa_24 := Fa_13.other W22 (Or.inl ne_b1_b11)
  have Fb_25 := Fb_14.other W22 (Or.inl ne_b1_b11)
  have Fc_26 := Fc_15.other W22 (Or.inl ne_b1_b11)
  have K22 := K16.wr W22 (Or.inr sz_b11)
  have N22 := Fr.snoc X22 N11 g_b11
  have V_27 := (Arv.set Ar21 q21 S21 N21z H21 G21 rfl W22 0 rfl (Nat.le_of_ble_eq_true rfl) : Arv Z h22 b11 kb11 .int (3 : Int32) [(.int (p1 ^^^ (-1 : Int32))), (.int p2), (.int p3)] (.int 0))
  refine Goes.on (fun t k => st22 t k) ?_
  show Goes p e below QQ (T22.setTop (mkF m 69 #[iv p1, iv p2, iv p3, rv b1, rv b11, iv 1, .unset] []))
  refine Goes.on (fun t k => XS.aload X22.here hx rfl (hb hby at_69) rfl rfl k) ?_
  show Goes p e below QQ (T22.setTop (mkF m 71 #[iv p1, iv p2, iv p3, rv b1, rv b11, iv 1, .unset] [(.ref b11)]))
  refine Goes.on (fun t k => XS.iconst X22.here hx rfl (hb hby at_71) k) ?_
  show Goes p e below QQ (T22.setTop (mkF m 72 #[iv p1, iv p2, iv p3, rv b1, rv b11, iv 1, .unset] [(.int 1), (.ref b11)]))
  refine Goes.on (fun t k => XS.iloadN X22.here hx rfl (hb hby at_72) rfl k) ?_
  show Goes p e below QQ (T22.setTop (mkF m 73 #[iv p1, iv p2, iv p3, rv b1, rv b11, iv 1, .unset] [(.int p2), (.int 1), (.ref b11)]))
  refine Goes.on (fun t k => XS.iconst X22.here hx rfl (hb hby at_73) k) ?_
  show Goes p e below QQ (T22.setTop (mkF m 74 #[iv p1, iv p2, iv p3, rv b1, rv b11, iv 1, .unset] [(.int (-1)), (.int p2), (.int 1), (.ref b11)]))
  refine Goes.on (fun t k => XS.ixor X22.here hx rfl (hb hby at_74) rfl k) ?_
  show Goes p e below QQ (T22.setTop (mkF m 75 #[iv p1, iv p2, iv p3, rv b1, rv b11, iv 1, .unset] [(.int (p2 ^^^ (-1 : Int32))), (.int 1), (.ref b11)]))
  obtain ⟨cl28, Ar28, q28, S28, N28z, H28, G28⟩ := id V_27
  have hin28 := inb_of (j := (1 : Int32)) S28 ⟨by decide, by decide⟩
  obtain ⟨T29, h29, X29, e29, W29, st29⟩ := stI X22 hx hZ e22 Ar28 (j := (1 : Int32)) hin28 (g := (mkF m 75 #[iv p1, iv p2, iv p3, rv b1, rv b11, iv 1, .unset] [(.int (p2 ^^^ (-1 : Int32))), (.int 1), (.ref b11)])) rfl rfl (hb hby at_75)
  have A1_30 := A1_23.wr W29
  have Fa_31 := Fa_24.other W29 (Or.inl ne_b1_b11)
  have Fb_32 := Fb_25.other W29 (Or.inl ne_b1_b11)
  have Fc_33 := Fc_26.other W29 (Or.inl ne_b1_b11)
  have K29 := K22.wr W29 (Or.inr sz_b11)
  have N29 := Fr.snoc X29 N22 g_b11
  have V_34 := (Arv.set Ar28 q28 S28 N28z H28 G28 rfl W29 1 rfl (Nat.le_of_ble_eq_true rfl) : Arv Z h29 b11 kb11 .int (3 : Int32) [(.int (p1 ^^^ (-1 : Int32))), (.int (p2 ^^^ (-1 : Int32))), (.int p3)] (.int 0))
  refine Goes.on (fun t k => st29 t k) ?_
  show Goes p e below QQ (T29.setTop (mkF m 76 #[iv p1, iv p2, iv p3, rv b1, rv b11, iv 1, .unset] []))
  refine Goes.on (fun t k => XS.aload X29.here hx rfl (hb hby at_76) rfl rfl k) ?_
  show Goes p e below QQ (T29.setTop (mkF m 78 #[iv p1, iv p2, iv p3, rv b1, rv b11, iv 1, .unset] [(.ref b11)]))
  refine Goes.on (fun t k => XS.iconst X29.here hx rfl (hb hby at_78) k) ?_
  show Goes p e below QQ (T29.setTop (mkF m 79 #[iv p1, iv p2, iv p3, rv b1, rv b11, iv 1, .unset] [(.int 2), (.ref b11)]))
  refine Goes.on (fun t k => XS.iloadN X29.here hx rfl (hb hby at_79) rfl k) ?_
  show Goes p e below QQ (T29.setTop (mkF m 80 #[iv p1, iv p2, iv p3, rv b1, rv b11, iv 1, .unset] [(.int p3), (.int 2), (.ref b11)]))
  refine Goes.on (fun t k => XS.iconst X29.here hx rfl (hb hby at_80) k) ?_
  show Goes p e below QQ (T29.setTop (mkF m 81 #[iv p1, iv p2, iv p3, rv b1, rv b11, iv 1, .unset] [(.int (-1)), (.int p3), (.int 2), (.ref b11)]))
  refine Goes.on (fun t k => XS.ixor X29.here hx rfl (hb hby at_81) rfl k) ?_
  show Goes p e below QQ (T29.setTop (mkF m 82 #[iv p1, iv p2, iv p3, rv b1, rv b11, iv 1, .unset] [(.int (p3 ^^^ (-1 : Int32))), (.int 2), (.ref b11)]))
  obtain ⟨cl35, Ar35, q35, S35, N35z, H35, G35⟩ := id V_34
  have hin35 := inb_of (j := (2 : Int32)) S35 ⟨by decide, by decide⟩
  obtain ⟨T36, h36, X36, e36, W36, st36⟩ := stI X29 hx hZ e29 Ar35 (j := (2 : Int32)) hin35 (g := (mkF m 82 #[iv p1, iv p2, iv p3, rv b1, rv b11, iv 1, .unset] [(.int (p3 ^^^ (-1 : Int32))), (.int 2), (.ref b11)])) rfl rfl (hb hby at_82)
  have A1_37 := A1_30.wr W36
  have Fa_38 := Fa_31.other W36 (Or.inl ne_b1_b11)
  have Fb_39 := Fb_32.other W36 (Or.inl ne_b1_b11)
  have Fc_40 := Fc_33.other W36 (Or.inl ne_b1_b11)
  have K36 := K29.wr W36 (Or.inr sz_b11)
  have N36 := Fr.snoc X36 N29 g_b11
  have V_41 := (Arv.set Ar35 q35 S35 N35z H35 G35 rfl W36 2 rfl (Nat.le_of_ble_eq_true rfl) : Arv Z h36 b11 kb11 .int (3 : Int32) [(.int (p1 ^^^ (-1 : Int32))), (.int (p2 ^^^ (-1 : Int32))), (.int (p3 ^^^ (-1 : Int32)))] (.int 0))
  refine Goes.on (fun t k => st36 t k) ?_
  show Goes p e below QQ (T36.setTop (mkF m 83 #[iv p1, iv p2, iv p3, rv b1, rv b11, iv 1, .unset] []))
  refine Goes.on (fun t k => XS.aloadN X36.here hx rfl (hb hby at_83) rfl rfl k) ?_
  show Goes p e below QQ (T36.setTop (mkF m 84 #[iv p1, iv p2, iv p3, rv b1, rv b11, iv 1, .unset] [(.ref b1)]))
  obtain ⟨cq42, kq42, q42a, q42b, q42c⟩ := isOf hZ e36 A1_37
  obtain ⟨_, _, ⟨T42, L42, k42, n42⟩, -, X42, ⟨Lc42, hQ42, l42, y42, z42⟩, st42⟩ := X36.virtualBack hx (y := (⟨"com/example/clew/clew/algebra/Atom$Statement", "variables", "()[I"⟩ : MethodName)) (z := (⟨"com/example/clew/clew/algebra/Atom$Statement", "variables", "()[I"⟩ : MethodName)) hown (mvT hZ (hw _ (List.mem_of_getElem? (i := 20) rfl))) (mvT hZ (hw _ (List.mem_of_getElem? (i := 21) rfl))) (notFace_of_selects (args := #[]) (mvT hZ (hw _ (List.mem_of_getElem? (i := 23) rfl)))) (mvT hZ (hw _ (List.mem_of_getElem? (i := 23) rfl))) (mvT hZ (hw _ (List.mem_of_getElem? (i := 22) rfl))) (by decide) (backOf (W := 0) (rm2 l Z a0 hw [] b1 p1 p2 p3 h36 n0 (Nat.le_trans Z0 K36.1) Fa_38 Fb_39 Fc_40) hZ (hw _ (List.mem_of_getElem? (i := 24) rfl)) (hw _ (List.mem_of_getElem? (i := 2) rfl)) (by decide) (by decide)) q42a q42c (g := (mkF m 84 #[iv p1, iv p2, iv p3, rv b1, rv b11, iv 1, .unset] [(.ref b1)])) rfl (by rw [hml]; rfl) (Steps.refl _) (argsL := []) (rest := []) (lenOf pd_2 rfl) rfl (by show 2 * 0 + _ ≤ _; exact Nat.le_of_eq rfl) (hb hby at_84) (fun _ _ => ⟨rfl, e36, (by decide : 2 + 1 ≤ _), (by decide : 6 + 3 ≤ _)⟩)
  dsimp only [Pt.U, Pt.locs, Pt.cells, Pt.slots] at X42 l42 y42 z42 st42 hQ42
  subst l42 y42 z42
  obtain ⟨b42, kb42, rfl, M42, Kc42, sz42, V_42⟩ := hQ42
  have sz_b42 : h0.size ≤ b42 := Nat.le_trans K36.1 sz42
  have g_b42 : n0 ≤ b42 := Nat.le_trans Z0 sz_b42
  have ne_b1_b42 : b1 ≠ b42 := Nat.ne_of_lt (Nat.lt_of_lt_of_le A1_37.lt sz42)
  have ne_b11_b42 : b11 ≠ b42 := Nat.ne_of_lt (Nat.lt_of_lt_of_le V_41.lt sz42)
  have N42 := Fr.app N36 M42
  refine Goes.on (fun t k => st42.trans k) ?_
  have A1_43 := A1_37.keep Kc42
  have Fa_44 := Fa_38.keep Kc42 nin0
  have Fb_45 := Fb_39.keep Kc42 nin0
  have Fc_46 := Fc_40.keep Kc42 nin0
  have V_47 := V_41.keep Kc42 nin0
  have K48 := K36.trans Kc42 all0
  show Goes p e below QQ (T42.setTop (mkF m 87 #[iv p1, iv p2, iv p3, rv b1, rv b11, iv 1, .unset] [(.ref b42)]))
  refine Goes.on (fun t k => XS.astore X42.here hx rfl (hb hby at_87) rfl rfl (l' := #[iv p1, iv p2, iv p3, rv b1, rv b11, iv 1, rv b42]) rfl k) ?_
  show Goes p e below QQ (T42.setTop (mkF m 89 #[iv p1, iv p2, iv p3, rv b1, rv b11, iv 1, rv b42] []))
  refine Goes.on (fun t k => XS.aload X42.here hx rfl (hb hby at_89) rfl rfl k) ?_
  show Goes p e below QQ (T42.setTop (mkF m 91 #[iv p1, iv p2, iv p3, rv b1, rv b11, iv 1, rv b42] [(.ref b42)]))
  refine Goes.on (fun t k => XS.ifnullNo X42.here hx rfl (hb hby at_91) rfl k) ?_
  show Goes p e below QQ (T42.setTop (mkF m 94 #[iv p1, iv p2, iv p3, rv b1, rv b11, iv 1, rv b42] []))
  refine Goes.on (fun t k => XS.aload X42.here hx rfl (hb hby at_94) rfl rfl k) ?_
  show Goes p e below QQ (T42.setTop (mkF m 96 #[iv p1, iv p2, iv p3, rv b1, rv b11, iv 1, rv b42] [(.ref b42)]))
  obtain ⟨cl49, Ar49, q49, S49, N49z, H49, G49⟩ := id V_42
  refine Goes.on (fun t k => X42.arraylength hx Ar49.1 (State.isArrayOf_alike hZ.alike Ar49.2.1) (g := (mkF m 96 #[iv p1, iv p2, iv p3, rv b1, rv b11, iv 1, rv b42] [(.ref b42)])) rfl rfl (hb hby at_96) t k) ?_
  rw [len_of S49 N49z]
  show Goes p e below QQ (T42.setTop (mkF m 97 #[iv p1, iv p2, iv p3, rv b1, rv b11, iv 1, rv b42] [(.int 3)]))
  refine Goes.on (fun t k => XS.iconst X42.here hx rfl (hb hby at_97) k) ?_
  show Goes p e below QQ (T42.setTop (mkF m 98 #[iv p1, iv p2, iv p3, rv b1, rv b11, iv 1, rv b42] [(.int 3), (.int 3)]))
  refine Goes.on (fun t k => XS.icmpYes X42.here hx rfl (pc0 := 98) (pc' := 103) rfl (hb hby at_98) rfl (teq (by decide)).1 (by decide) (by decide) k) ?_
  show Goes p e below QQ (T42.setTop (mkF m 103 #[iv p1, iv p2, iv p3, rv b1, rv b11, iv 1, rv b42] []))
  refine Goes.on (fun t k => XS.iload X42.here hx rfl (hb hby at_103) rfl k) ?_
  show Goes p e below QQ (T42.setTop (mkF m 105 #[iv p1, iv p2, iv p3, rv b1, rv b11, iv 1, rv b42] [(.int 1)]))
  refine Goes.on (fun t k => XS.ifNo X42.here hx rfl (hb hby at_105) rfl ((if0 _ _).trans (feq (by decide)).1) k) ?_
  show Goes p e below QQ (T42.setTop (mkF m 108 #[iv p1, iv p2, iv p3, rv b1, rv b11, iv 1, rv b42] []))
  refine Goes.on (fun t k => XS.aload X42.here hx rfl (hb hby at_108) rfl rfl k) ?_
  show Goes p e below QQ (T42.setTop (mkF m 110 #[iv p1, iv p2, iv p3, rv b1, rv b11, iv 1, rv b42] [(.ref b42)]))
  refine Goes.on (fun t k => XS.iconst X42.here hx rfl (hb hby at_110) k) ?_
  show Goes p e below QQ (T42.setTop (mkF m 111 #[iv p1, iv p2, iv p3, rv b1, rv b11, iv 1, rv b42] [(.int 0), (.ref b42)]))
  obtain ⟨cl50, Ar50, q50, S50, N50z, H50, G50⟩ := id V_42
  have hin50 := inb_of (j := (0 : Int32)) S50 ⟨by decide, by decide⟩
  have hat50 := Has.at (v := (.int p1)) H50 hin50 rfl
  refine Goes.on (fun t k => X42.iaload hx (j := (0 : Int32)) (v := (.int p1)) Ar50.1 (State.isArrayOf_alike hZ.alike Ar50.2.1) Ar50.2.2 hin50 hat50 (g := (mkF m 111 #[iv p1, iv p2, iv p3, rv b1, rv b11, iv 1, rv b42] [(.int 0), (.ref b42)])) rfl rfl (hb hby at_111) t k) ?_
  show Goes p e below QQ (T42.setTop (mkF m 112 #[iv p1, iv p2, iv p3, rv b1, rv b11, iv 1, rv b42] [(.int p1)]))
  refine Goes.on (fun t k => XS.iloadN X42.here hx rfl (hb hby at_112) rfl k) ?_
  show Goes p e below QQ (T42.setTop (mkF m 113 #[iv p1, iv p2, iv p3, rv b1, rv b11, iv 1, rv b42] [(.int p1), (.int p1)]))
  refine Goes.on (fun t k => XS.icmpNo X42.here hx rfl (hb hby at_113) rfl (teq (rfl : p1 = p1)).2 k) ?_
  show Goes p e below QQ (T42.setTop (mkF m 116 #[iv p1, iv p2, iv p3, rv b1, rv b11, iv 1, rv b42] []))
  refine Goes.on (fun t k => XS.aload X42.here hx rfl (hb hby at_116) rfl rfl k) ?_
  show Goes p e below QQ (T42.setTop (mkF m 118 #[iv p1, iv p2, iv p3, rv b1, rv b11, iv 1, rv b42] [(.ref b42)]))
  refine Goes.on (fun t k => XS.iconst X42.here hx rfl (hb hby at_118) k) ?_
  show Goes p e below QQ (T42.setTop (mkF m 119 #[iv p1, iv p2, iv p3, rv b1, rv b11, iv 1, rv b42] [(.int 1), (.ref b42)]))
  obtain ⟨cl51, Ar51, q51, S51, N51z, H51, G51⟩ := id V_42
  have hin51 := inb_of (j := (1 : Int32)) S51 ⟨by decide, by decide⟩
  have hat51 := Has.at (v := (.int p2)) H51 hin51 rfl
  refine Goes.on (fun t k => X42.iaload hx (j := (1 : Int32)) (v := (.int p2)) Ar51.1 (State.isArrayOf_alike hZ.alike Ar51.2.1) Ar51.2.2 hin51 hat51 (g := (mkF m 119 #[iv p1, iv p2, iv p3, rv b1, rv b11, iv 1, rv b42] [(.int 1), (.ref b42)])) rfl rfl (hb hby at_119) t k) ?_
  show Goes p e below QQ (T42.setTop (mkF m 120 #[iv p1, iv p2, iv p3, rv b1, rv b11, iv 1, rv b42] [(.int p2)]))
  refine Goes.on (fun t k => XS.iloadN X42.here hx rfl (hb hby at_120) rfl k) ?_
  show Goes p e below QQ (T42.setTop (mkF m 121 #[iv p1, iv p2, iv p3, rv b1, rv b11, iv 1, rv b42] [(.int p2), (.int p2)]))
  refine Goes.on (fun t k => XS.icmpNo X42.here hx rfl (hb hby at_121) rfl (teq (rfl : p2 = p2)).2 k) ?_
  show Goes p e below QQ (T42.setTop (mkF m 124 #[iv p1, iv p2, iv p3, rv b1, rv b11, iv 1, rv b42] []))
  refine Goes.on (fun t k => XS.aload X42.here hx rfl (hb hby at_124) rfl rfl k) ?_
  show Goes p e below QQ (T42.setTop (mkF m 126 #[iv p1, iv p2, iv p3, rv b1, rv b11, iv 1, rv b42] [(.ref b42)]))
  refine Goes.on (fun t k => XS.iconst X42.here hx rfl (hb hby at_126) k) ?_
  show Goes p e below QQ (T42.setTop (mkF m 127 #[iv p1, iv p2, iv p3, rv b1, rv b11, iv 1, rv b42] [(.int 2), (.ref b42)]))
  obtain ⟨cl52, Ar52, q52, S52, N52z, H52, G52⟩ := id V_42
  have hin52 := inb_of (j := (2 : Int32)) S52 ⟨by decide, by decide⟩
  have hat52 := Has.at (v := (.int p3)) H52 hin52 rfl
  refine Goes.on (fun t k => X42.iaload hx (j := (2 : Int32)) (v := (.int p3)) Ar52.1 (State.isArrayOf_alike hZ.alike Ar52.2.1) Ar52.2.2 hin52 hat52 (g := (mkF m 127 #[iv p1, iv p2, iv p3, rv b1, rv b11, iv 1, rv b42] [(.int 2), (.ref b42)])) rfl rfl (hb hby at_127) t k) ?_
  show Goes p e below QQ (T42.setTop (mkF m 128 #[iv p1, iv p2, iv p3, rv b1, rv b11, iv 1, rv b42] [(.int p3)]))
  refine Goes.on (fun t k => XS.iloadN X42.here hx rfl (hb hby at_128) rfl k) ?_
  show Goes p e below QQ (T42.setTop (mkF m 129 #[iv p1, iv p2, iv p3, rv b1, rv b11, iv 1, rv b42] [(.int p3), (.int p3)]))
  refine Goes.on (fun t k => XS.icmpNo X42.here hx rfl (hb hby at_129) rfl (teq (rfl : p3 = p3)).2 k) ?_
  show Goes p e below QQ (T42.setTop (mkF m 132 #[iv p1, iv p2, iv p3, rv b1, rv b11, iv 1, rv b42] []))
  refine Goes.on (fun t k => XS.iconst X42.here hx rfl (hb hby at_132) k) ?_
  show Goes p e below QQ (T42.setTop (mkF m 133 #[iv p1, iv p2, iv p3, rv b1, rv b11, iv 1, rv b42] [(.int 1)]))
  refine Goes.on (fun t k => XS.goto X42.here hx rfl (pc0 := 133) (pc' := 137) rfl (hb hby at_133) (by decide) (by decide) k) ?_
  show Goes p e below QQ (T42.setTop (mkF m 137 #[iv p1, iv p2, iv p3, rv b1, rv b11, iv 1, rv b42] [(.int 1)]))
  exact Goes.rN X42 hx (t := .boolean) hret (by simp) hlk (hb hby at_137) hQQ ⟨rfl, N42⟩ (by decide) (by decide)
set_option maxRecDepth 65536 in
set_option maxHeartbeats 40000000 in
theorem comes_1 {Post : Tables → Env → Array Value → State → Outcome → State → Prop} (hpost : ∀ tb e args s v u, (limb_1_1.after args s (.returned v) u = true ∧ limb_1_2.after args s (.returned v) u = true ∧ True) → FrameEnd s (.returned v) u (Jvm.fieldLocs frame_1_writes args s ++ Jvm.arrayLocs frame_1_arrays args s ++ Jvm.staticLocs frame_1_statics s) 16 128 → Post tb e args s (.returned v) u) :
    ArmFor flags0 classFile x code maxLocals ret World_1 tables_1 room_1 Calls_1 rest_1 Pre_1 Post := by
  intro l hfl _ _ p e ha hc hk s m args below hf hA hF happ hP
  obtain ⟨hcalls, hrest, hpre⟩ := hP
  obtain ⟨-, -, -, hnamed, -, -, -, hat⟩ := (Spec.applies_iff hf).mp happ
  obtain ⟨hg, hn⟩ := and_e (Cond.before_iff.mp (show (Jvm.Cond.and given_1 narrow_1).before args s = true from hpre))
  obtain ⟨hg0, hg1⟩ := and_e hg
  obtain ⟨ga1, hg2⟩ := and_e hg1
  obtain ⟨ga2, hg3⟩ := and_e hg2
  obtain ⟨w0, w1, w2, rfl⟩ : ∃ w0 w1 w2 : Value, args = #[w0, w1, w2] := by
    have hs : args.size = 3 := by simpa [Cond.value, given_1] using hg0
    obtain ⟨L⟩ := args
    match L, hs with
    | [w0, w1, w2], _ => exact ⟨w0, w1, w2, rfl⟩
  have hw := fun d (hd : d ∈ tables_1) => atoms_spec (ws := Jvm.Cond.code x code maxLocals ret :: tables_1) hat d (List.mem_cons_of_mem _ hd)
  have hfit : Fit s := fun {y c} hc i hi => by
    obtain ⟨ha, rfl⟩ := Array.getElem?_eq_some_iff.mp hc
    have q := List.all_eq_true.mp ((Array.all_eq_true_iff_forall_mem.mp hF) _ (Array.getElem_mem ha)) i (List.mem_range.mpr hi)
    simpa [Array.getElem?_eq_getElem hi] using q
  obtain ⟨i0, ei0⟩ := is_v ga1
  obtain rfl : w0 = (.int i0) := Option.some.inj ei0
  obtain ⟨i1, ei1⟩ := is_v ga2
  obtain rfl : w1 = (.int i1) := Option.some.inj ei1
  obtain ⟨i2, ei2⟩ := is_v hg3
  obtain rfl : w2 = (.int i2) := Option.some.inj ei2
  obtain ⟨n, o, h1, h2, h3, _, L, rfl, ⟨rfl, N⟩, hq⟩ := rm0 l s _ hw tables_1 i0 i1 i2 s.heap s.heap.size (Nat.le_refl _)  p e ha hc hk s m _ below hf ((Spec.applies_iff_loose hf).mp happ).1 ⟨rfl, State.Warmed39.refl s, rfl⟩ trivial
  refine ⟨n, _, h1, h2, h3, hpost _ _ _ _ _ _ ⟨Cond.after_iff.mpr rfl, Cond.after_iff.mpr (eq_i res_at (Term.int_eval (1)) rfl), trivial⟩ ⟨hq.1, hq.2.1, (hq.2.2.sift fun y hy => Or.inr (N y hy)).mono (by decide) (by decide)⟩⟩
theorem main_1_1 : Claimed_1_1 := comes_1 fun _ _ _ _ _ _ h hF => ⟨h.1, hF⟩
theorem main_1_2 : Claimed_1_2 := comes_1 fun _ _ _ _ _ _ h hF => ⟨h.2.1, hF⟩
end Jvm.Pilot.@@N@@
namespace Jvm.Pilot.@@N@@
open Jvm Jvm.ClassFile Sem Op Lib Jvm.Free Jvm.Stand Jvm.Pilot.@@N@@.Jvm.D
/-! MADE BY PROGRAM (witnessworld.py) out of the Statement's table words and the real class files: 11 classes; the members and pool entries that the words name. The judged class is class 1, her method 1. -/
namespace start1
open Jvm.ClassFile
def u (s : String) : CpInfo := .utf8 (stringToUtf16 s)
/-- a pool by its gaps: so many unusable entries, then the entry; so many at the end -/
def gap : Nat → List CpInfo → List CpInfo
  | 0, r => r
  | n + 1, r => .unusable :: gap n r
def poolList (es : List (Nat × CpInfo)) (last : Nat) : List CpInfo := es.foldr (fun e r => gap e.1 (e.2 :: r)) (gap last [])
def pool (es : List (Nat × CpInfo)) (last : Nat) : Array CpInfo := ⟨poolList es last⟩
def fileOf (pool : Array CpInfo) (this : Nat) (attrs : Array Attribute := #[]) (ms : Array MethodInfo := #[]) (fl : Nat := 33) (sup : Nat := 0) (ifs : Array Nat := #[]) (fds : Array FieldInfo := #[]) : ClassFile where
  minorVersion := 0
  majorVersion := 65
  constantPool := pool
  accessFlags := fl
  thisClass := this
  superClass := sup
  interfaces := ifs
  fields := fds
  methods := ms
  attributes := attrs
def plain (name : String) (sup : Option ClassId) : Class where
  name := name
  kind := .ordinary
  loader := none
  accessFlags := 33
  super := sup
  interfaces := #[]
  cf := none
  fields := #[]
  methods := #[]
  instanceTypes := #[]
  staticTypes := #[]
  resolved := #[]
  callSites := []
  init := .initialized
  statics := none
  mirror := none

def pool0 : Array CpInfo := pool [(5, u "<init>"), (0, u "()V"), (1, .class_ 10), (1, u "java/lang/Object")] 113

def k0c0 : Code := { maxStack := 0, maxLocals := 1, code := object_method_1_code, exceptionTable := #[], attributes := #[] }
def k0m0 : Method := { name := "<init>", desc := "()V", sig := { parameters := [], returnType := none }, accessFlags := 1, code := some k0c0 }
/-- java/lang/Object -/
def k0 : Class := { plain "java/lang/Object" none with
  accessFlags := 33
  interfaces := #[]
  cf := some (fileOf pool0 8 #[] #[{ accessFlags := 1, nameIndex := 5, descriptorIndex := 6, attributes := #[] }] 33 0 #[] #[])
  fields := #[]
  methods := #[k0m0]
  instanceTypes := #[]
  staticTypes := #[]
  resolved := Array.replicate 124 none
  statics := none }

def pool1 : Array CpInfo := pool [(2, .class_ 4), (1, u "java/lang/Object"), (0, u "<init>"), (0, u "()V"), (0, .class_ 8), (0, u "com/example/clew/clew/algebra/Atom$Statement"), (0, .methodref 7 10), (0, .nameAndType 5 11), (0, u "(III)V"), (0, .methodref 7 13), (0, .nameAndType 14 15), (0, u "variables"), (0, u "()[I"), (0, .class_ 17), (0, u "com/example/clew/clew/algebra/StatementVariablesPinLaw"), (2, u "law"), (0, u "(III)Z")] 9

def k1m0 : Method := { name := "<init>", desc := "()V", sig := { parameters := [], returnType := none }, accessFlags := 1, code := none }
def k1c1 : Code := { maxStack := 5, maxLocals := 7, code := code, exceptionTable := #[], attributes := #[] }
def k1m1 : Method := { name := "law", desc := "(III)Z", sig := { parameters := [.int, .int, .int], returnType := some .boolean }, accessFlags := 9, code := some k1c1 }
/-- com/example/clew/clew/algebra/StatementVariablesPinLaw -/
def k1 : Class := { plain "com/example/clew/clew/algebra/StatementVariablesPinLaw" (some 0) with
  accessFlags := 49
  interfaces := #[]
  cf := some (fileOf pool1 16 #[] #[{ accessFlags := 1, nameIndex := 5, descriptorIndex := 6, attributes := #[] }, { accessFlags := 9, nameIndex := 20, descriptorIndex := 21, attributes := #[] }] 49 2 #[] #[])
  fields := #[]
  methods := #[k1m0, k1m1]
  instanceTypes := #[]
  staticTypes := #[]
  resolved := Array.replicate 31 none
  statics := none }

def pool2 : Array CpInfo := pool [(1, .methodref 2 3), (0, .class_ 4), (0, .nameAndType 5 6), (0, u "java/lang/Object"), (0, u "<init>"), (0, u "()V"), (0, .class_ 8), (0, u "java/lang/Record")] 13

def k2c0 : Code := { maxStack := 1, maxLocals := 1, code := jdk_30_method_1_code, exceptionTable := #[], attributes := #[] }
def k2m0 : Method := { name := "<init>", desc := "()V", sig := { parameters := [], returnType := none }, accessFlags := 4, code := some k2c0 }
/-- java/lang/Record -/
def k2 : Class := { plain "java/lang/Record" (some 0) with
  accessFlags := 1057
  interfaces := #[]
  cf := some (fileOf pool2 7 #[] #[{ accessFlags := 4, nameIndex := 5, descriptorIndex := 6, attributes := #[] }] 1057 2 #[] #[])
  fields := #[]
  methods := #[k2m0]
  instanceTypes := #[]
  staticTypes := #[]
  resolved := Array.replicate 22 none
  statics := none }

def pool3 : Array CpInfo := pool [(1, .class_ 2), (0, u "com/example/clew/clew/algebra/Atom"), (0, .class_ 4), (0, u "java/lang/Object"), (5, .class_ 11), (0, u "com/example/clew/clew/algebra/Atom$Metaclasses"), (0, .class_ 13), (0, u "com/example/clew/clew/algebra/Atom$Relatives"), (0, .class_ 15), (0, u "com/example/clew/clew/algebra/Atom$ProperInstance"), (0, .class_ 17), (0, u "com/example/clew/clew/algebra/Atom$Stated"), (0, .class_ 19), (0, u "com/example/clew/clew/algebra/Atom$SideClass"), (0, .class_ 21), (0, u "com/example/clew/clew/algebra/Atom$InGroup"), (0, .class_ 23), (0, u "com/example/clew/clew/algebra/Atom$ClassesBelow"), (0, .class_ 25), (0, u "com/example/clew/clew/algebra/Atom$Constant"), (0, .class_ 27), (0, u "com/example/clew/clew/algebra/Atom$Statement"), (0, .class_ 29), (0, u "com/example/clew/clew/algebra/Atom$PropertyExtent"), (0, .class_ 31), (0, u "com/example/clew/clew/algebra/Atom$ClassExtent")] 13

/-- com/example/clew/clew/algebra/Atom -/
def k3 : Class := { plain "com/example/clew/clew/algebra/Atom" (some 0) with
  accessFlags := 1537
  interfaces := #[]
  cf := some (fileOf pool3 1 #[.nestMembers #[10, 12, 14, 16, 18, 20, 22, 24, 26, 28, 30]] #[] 1537 3 #[] #[])
  fields := #[]
  methods := #[]
  instanceTypes := #[]
  staticTypes := #[]
  resolved := Array.replicate 45 none
  statics := none }

def pool4 : Array CpInfo := pool [(1, .methodref 2 3), (0, .class_ 4), (0, .nameAndType 5 6), (0, u "java/lang/Record"), (0, u "<init>"), (0, u "()V"), (0, .fieldref 8 9), (0, .class_ 10), (0, .nameAndType 11 12), (0, u "com/example/clew/clew/algebra/Atom$Statement"), (0, u "property"), (0, u "I"), (0, .fieldref 8 14), (0, .nameAndType 15 12), (0, u "subject"), (0, .fieldref 8 17), (0, .nameAndType 18 12), (0, u "object"), (12, .class_ 32), (0, u "com/example/clew/clew/algebra/Atom"), (0, u "(III)V"), (3, u "variables"), (0, u "()[I")] 27

def k4c0 : Code := { maxStack := 2, maxLocals := 4, code := prog_13_method_1_code, exceptionTable := #[], attributes := #[] }
def k4m0 : Method := { name := "<init>", desc := "(III)V", sig := { parameters := [.int, .int, .int], returnType := none }, accessFlags := 1, code := some k4c0 }
def k4c1 : Code := { maxStack := 4, maxLocals := 1, code := prog_13_method_2_code, exceptionTable := #[], attributes := #[] }
def k4m1 : Method := { name := "variables", desc := "()[I", sig := { parameters := [], returnType := some (.array .int) }, accessFlags := 1, code := some k4c1 }
/-- com/example/clew/clew/algebra/Atom$Statement -/
def k4 : Class := { plain "com/example/clew/clew/algebra/Atom$Statement" (some 2) with
  accessFlags := 49
  interfaces := #[3]
  cf := some (fileOf pool4 8 #[.nestHost 31] #[{ accessFlags := 1, nameIndex := 5, descriptorIndex := 33, attributes := #[] }, { accessFlags := 1, nameIndex := 37, descriptorIndex := 38, attributes := #[] }] 49 2 #[31] #[{ accessFlags := 18, nameIndex := 11, descriptorIndex := 12, attributes := #[] }, { accessFlags := 18, nameIndex := 15, descriptorIndex := 12, attributes := #[] }, { accessFlags := 18, nameIndex := 18, descriptorIndex := 12, attributes := #[] }])
  fields := #[{ name := "property", type := .int, accessFlags := 18, slot := 0, constantValue := 0 }, { name := "subject", type := .int, accessFlags := 18, slot := 1, constantValue := 0 }, { name := "object", type := .int, accessFlags := 18, slot := 2, constantValue := 0 }]
  methods := #[k4m0, k4m1]
  instanceTypes := #[.int, .int, .int]
  staticTypes := #[]
  resolved := Array.replicate 66 none
  statics := none }

def pool5 : Array CpInfo := pool [(1, u "java/lang/Cloneable"), (0, .class_ 1), (0, u "java/lang/Object"), (0, .class_ 3)] 3

/-- java/lang/Cloneable -/
def k5 : Class := { plain "java/lang/Cloneable" (some 0) with
  accessFlags := 1537
  interfaces := #[]
  cf := some (fileOf pool5 2 #[] #[] 1537 4 #[] #[])
  fields := #[]
  methods := #[]
  instanceTypes := #[]
  staticTypes := #[]
  resolved := Array.replicate 8 none
  statics := none }

def pool6 : Array CpInfo := pool [(1, u "java/io/Serializable"), (0, .class_ 1), (0, u "java/lang/Object"), (0, .class_ 3)] 3

/-- java/io/Serializable -/
def k6 : Class := { plain "java/io/Serializable" (some 0) with
  accessFlags := 1537
  interfaces := #[]
  cf := some (fileOf pool6 2 #[] #[] 1537 4 #[] #[])
  fields := #[]
  methods := #[]
  instanceTypes := #[]
  staticTypes := #[]
  resolved := Array.replicate 8 none
  statics := none }

/-- the primitive byte -/
def k7 : Class := { plain "byte" none with kind := .primitive 'B', accessFlags := 0x411 }
/-- [B -/
def k8 : Class := { plain "[B" (some 0) with kind := .array 7 .byte, interfaces := #[5, 6], accessFlags := 1041 }

/-- the primitive int -/
def k9 : Class := { plain "int" none with kind := .primitive 'I', accessFlags := 0x411 }
/-- [I -/
def k10 : Class := { plain "[I" (some 0) with kind := .array 9 .int, interfaces := #[5, 6], accessFlags := 1041 }

def heap : Heap := #[]
def classes : Array Class := #[k0, k1, k2, k3, k4, k5, k6, k7, k8, k9, k10]
def interned : List (Array UInt16 × Addr) := []
def slotsUsed : Nat := 0
def theMethod : MethodId := ⟨1, 1⟩
def args0 : Array Value := #[.int 5, .int 300, .int 7]
def aboutOver (below : List Frame) : State where
  vm := { classes := classes, interned := interned.toArray }
  heap := heap
  slotsUsed := slotsUsed
  threads := #[{ frames := .invoking theMethod args0 :: below }]
def below0 : List Frame := [.native { method := ⟨0, 0⟩, args := #[] }]
def about1 : State := aboutOver below0
def p0 : Program := .bare "" "" ""
def e0 : Env := launch0.env 0 0 0
theorem w_frames : about1.frames = Frame.invoking theMethod args0 :: below0 := rfl
set_option maxRecDepth 65536 in
theorem w_args : argsFit about1.vm theMethod args0 = true := by decide +kernel
set_option maxRecDepth 65536 in
theorem w_heap : heapFits about1 = true := by decide +kernel
set_option maxRecDepth 65536 in
theorem w_runnable : about1.curStatus? = some .runnable := by decide +kernel
set_option maxRecDepth 65536 in
theorem w_alone : about1.alone = true := by decide +kernel
set_option maxRecDepth 65536 in
theorem w_named : about1.methodNamed? x = some theMethod := by decide +kernel
set_option maxRecDepth 65536 in
theorem w_hears : about1.hears theMethod below0 = true := by decide +kernel
set_option maxRecDepth 65536 in
theorem w_ripe : about1.ripe theMethod args0 below0 = true := by decide +kernel
theorem w_running : about1.status = .running := rfl
set_option maxRecDepth 65536 in
theorem w_room : about1.hasRoom e0.platform room_1 = true :=
  launch0.hasRoom_least _ room_1 (by decide +kernel) (by decide +kernel) (by decide +kernel) (by decide +kernel) (by decide +kernel) (by decide +kernel)
theorem allAtoms_all (ts : List Jvm.Cond) (a : Array Jvm.Value) (st : Jvm.State) : (allAtoms ts).before a st = ts.all (fun c => c.before a st) := by
  induction ts with
  | nil => rfl
  | cons c t ih =>
    show (Jvm.Cond.and c (allAtoms t)).before a st = _
    rw [Jvm.Cond.before_and, ih, List.all_cons]
def words1 : List Jvm.Cond := Jvm.Cond.code x code maxLocals ret :: tables_1
/-- a 'code' word, met by the world's own term for the bytes: nothing is compared byte by byte -/
theorem code_word {y : MethodName} {bytes : ByteArray} {mx : Nat} {rt : Option FieldType} {a : Array Value} {s : State} {m : MethodId} {meth : Method} {c : Code} (h1 : s.methodNamed? y = some m) (h2 : s.vm.method? m = some meth) (h3 : meth.code = some c) (h4 : c.code = bytes)
    (h5 : (c.maxLocals == mx && c.exceptionTable.isEmpty && decide (c.maxStack ≤ mostOperands) && decide (meth.sig.returnType = rt) && !meth.locks && decide (parseMethodDescriptor y.desc = some meth.sig)) = true) : (Jvm.Cond.code y bytes mx rt).before a s = true := by
  simp only [Bool.and_eq_true, beq_iff_eq, Bool.not_eq_true', decide_eq_true_eq] at h5
  obtain ⟨⟨⟨⟨⟨g1, g2⟩, g3⟩, g4⟩, g5⟩, g6⟩ := h5
  simp [Cond.before, Cond.holds, Cond.value, h1, h2, h3, h4, g1, g2, g3, g4, g5, g6]
def isCode : Jvm.Cond → Bool
  | .code _ _ _ _ => true
  | _ => false
theorem all_split {L : List Jvm.Cond} {P : Jvm.Cond → Bool} (h1 : L.all (fun c => isCode c || P c) = true) (h2 : ∀ c ∈ L.filter isCode, P c = true) : L.all P = true := by
  refine List.all_eq_true.mpr fun c hc => ?_
  have h := List.all_eq_true.mp h1 c hc
  rcases Bool.eq_false_or_eq_true (isCode c) with hi | hi
  · exact h2 c (List.mem_filter.mpr ⟨hc, hi⟩)
  · simpa [hi] using h
set_option maxRecDepth 65536 in
theorem w_c0 : (Jvm.Cond.code x code maxLocals ret).before args0 about1 = true := code_word (m := ⟨1, 1⟩) (meth := k1m1) (c := k1c1) (by decide +kernel) rfl rfl rfl (by decide +kernel)
set_option maxRecDepth 65536 in
theorem w_c1 : (Jvm.Cond.code ({ cls := "com/example/clew/clew/algebra/Atom$Statement", name := "<init>", desc := "(III)V" } : Jvm.MethodName) prog_13_method_1_code (4 : Nat) (Option.none : Option Jvm.ClassFile.FieldType)).before args0 about1 = true := code_word (m := ⟨4, 0⟩) (meth := k4m0) (c := k4c0) (by decide +kernel) rfl rfl rfl (by decide +kernel)
set_option maxRecDepth 65536 in
theorem w_c2 : (Jvm.Cond.code ({ cls := "java/lang/Record", name := "<init>", desc := "()V" } : Jvm.MethodName) jdk_30_method_1_code (1 : Nat) (Option.none : Option Jvm.ClassFile.FieldType)).before args0 about1 = true := code_word (m := ⟨2, 0⟩) (meth := k2m0) (c := k2c0) (by decide +kernel) rfl rfl rfl (by decide +kernel)
set_option maxRecDepth 65536 in
theorem w_c3 : (Jvm.Cond.code ({ cls := "java/lang/Object", name := "<init>", desc := "()V" } : Jvm.MethodName) object_method_1_code (1 : Nat) (Option.none : Option Jvm.ClassFile.FieldType)).before args0 about1 = true := code_word (m := ⟨0, 0⟩) (meth := k0m0) (c := k0c0) (by decide +kernel) rfl rfl rfl (by decide +kernel)
set_option maxRecDepth 65536 in
theorem w_c4 : (Jvm.Cond.code ({ cls := "com/example/clew/clew/algebra/Atom$Statement", name := "variables", desc := "()[I" } : Jvm.MethodName) prog_13_method_2_code (1 : Nat) (Option.some (Jvm.ClassFile.FieldType.array Jvm.ClassFile.FieldType.int))).before args0 about1 = true := code_word (m := ⟨4, 1⟩) (meth := k4m1) (c := k4c1) (by decide +kernel) rfl rfl rfl (by decide +kernel)
def codes1 : List Jvm.Cond := [Jvm.Cond.code x code maxLocals ret, Jvm.Cond.code ({ cls := "com/example/clew/clew/algebra/Atom$Statement", name := "<init>", desc := "(III)V" } : Jvm.MethodName) prog_13_method_1_code (4 : Nat) (Option.none : Option Jvm.ClassFile.FieldType), Jvm.Cond.code ({ cls := "java/lang/Record", name := "<init>", desc := "()V" } : Jvm.MethodName) jdk_30_method_1_code (1 : Nat) (Option.none : Option Jvm.ClassFile.FieldType), Jvm.Cond.code ({ cls := "java/lang/Object", name := "<init>", desc := "()V" } : Jvm.MethodName) object_method_1_code (1 : Nat) (Option.none : Option Jvm.ClassFile.FieldType), Jvm.Cond.code ({ cls := "com/example/clew/clew/algebra/Atom$Statement", name := "variables", desc := "()[I" } : Jvm.MethodName) prog_13_method_2_code (1 : Nat) (Option.some (Jvm.ClassFile.FieldType.array Jvm.ClassFile.FieldType.int))]
set_option maxRecDepth 65536 in
theorem codes_eq : words1.filter isCode = codes1 := rfl
theorem w_codes : ∀ c ∈ words1.filter isCode, c.before args0 about1 = true := by
  rw [codes_eq]
  intro c hc
  simp only [codes1, List.mem_cons, List.not_mem_nil, or_false] at hc
  rcases hc with rfl | rfl | rfl | rfl | rfl
  · exact w_c0
  · exact w_c1
  · exact w_c2
  · exact w_c3
  · exact w_c4
set_option maxRecDepth 65536 in
theorem w_t1 : (words1.take 24).all (fun c => isCode c || c.before args0 about1) = true := by decide +kernel
set_option maxRecDepth 65536 in
theorem w_t2 : (words1.drop 24).all (fun c => isCode c || c.before args0 about1) = true := by decide +kernel
theorem w_tables : (allAtoms (Jvm.Cond.code x code maxLocals ret :: tables_1)).before args0 about1 = true := by
  rw [allAtoms_all]
  show words1.all (fun c => c.before args0 about1) = true
  refine all_split ?_ w_codes
  rw [← List.take_append_drop 24 words1, List.all_append, w_t1, w_t2]
  rfl
set_option maxRecDepth 65536 in
theorem w_case : (Jvm.Cond.and given_1 narrow_1).before args0 about1 = true := by decide +kernel
theorem w_applies : (headSpec (Jvm.Cond.code x code maxLocals ret :: tables_1) room_1).applies x e0.platform about1 = true :=
  (Spec.applies_iff w_frames).mpr ⟨w_running, w_runnable, w_alone, w_named, w_hears, w_ripe, w_room, w_tables⟩
theorem atStart : AtStart classFile x code maxLocals ret World_1 tables_1 room_1 Calls_1 rest_1 Pre_1 launch0 p0 e0 about1 theMethod args0 below0 :=
  ⟨lists_1, trivial, launch0.admits_env _ _ _, launch0.least_env, fairChoices_fair.cas, fairChoices_fair.clock, w_frames, w_args, w_heap, w_applies, trivial, trivial, w_case⟩
end start1
theorem witness_1 : WitnessClaimed_1 := ⟨start1.p0, start1.e0, start1.about1, start1.theMethod, start1.args0, start1.below0, start1.atStart⟩
end Jvm.Pilot.@@N@@
