import JvmDerived
import JvmDerived.Pilot.@@N@@Statement
import JvmDerived.Pilot.@@N@@Code
set_option linter.unusedVariables false
set_option linter.unusedSimpArgs false
namespace Jvm.Pilot.@@N@@
open Jvm Jvm.ClassFile Sem Op Lib Jvm.Free Jvm.Stand Jvm.LawKit Jvm.RoadKit Bundle Jvm.Pilot.@@N@@.Jvm.D
/-! from the state S the run comes to an end that QQ allows -/
def Goes (p : Program) (e : Env) (below : List Frame) (QQ : Outcome → State → Prop) (S : State) : Prop :=
  ∃ s₂ o, Steps p.tables e below S s₂ ∧ s₂.status = .running ∧ Ended s₂ below o ∧ QQ o s₂
theorem Goes.on {p : Program} {e : Env} {below : List Frame} {QQ : Outcome → State → Prop} {S S' : State} (h : ∀ t, Steps p.tables e below S' t → Steps p.tables e below S t) (g : Goes p e below QQ S') : Goes p e below QQ S := by
  obtain ⟨s₂, o, h1, h2⟩ := g
  exact ⟨s₂, o, h _ h1, h2⟩
theorem Goes.cast {p : Program} {e : Env} {below : List Frame} {QQ : Outcome → State → Prop} {T : State} {g g' : JFrame} (q : g = g') (k : Goes p e below QQ (T.setTop g')) : Goes p e below QQ (T.setTop g) := q ▸ k
def EndsQ (s : State) (Q : Option Value → Heap → List Loc → Prop) (kc ks : Nat) (o : Outcome) (U' : State) : Prop := ∃ v L, o = .returned v ∧ Q v U'.heap L ∧ FrameEnd s o U' L kc ks
/-- a result alone -/
def QP (x : Value) (h0 : Heap) (n0 : Nat) (v : Option Value) (h : Heap) (L : List Loc) : Prop := v = some x ∧ Fr n0 L ∧ h = h0
theorem own_enter {l : Launch} {y : MethodName} {bytes : ByteArray} {maxL : Nat} {rt : Option FieldType} {ws : List Jvm.Cond} {rm : Room} {as' : Array Value} {Q : Option Value → Heap → List Loc → Prop} {Z : State} {h0 : Heap} {kc ks : Nat} (hp : plainFor y = true)
    (body : ∀ (p : Program) (e : Env) (s : State) (m : MethodId) (below : List Frame) (meth : Method) (c : Code) (s₁ : State) (QQ : Outcome → State → Prop), (∀ o U', EndsQ s Q kc ks o U' → QQ o U') → p.tables.exec = Jvm.exec → c.code = bytes → c.maxLocals = maxL → s.vm.findClass y.cls = some m.cls → meth.name = y.name → meth.sig.returnType = rt → meth.locks = false → Z.Warmed39 s.vm → Stand p l e rm s m as' below meth c s₁ [] 0 0 → s₁.heap = h0 →
      Goes p e below QQ (s₁.setTop (entryFrame m as' maxL))) :
    MetFree l y (head1 (Jvm.Cond.code y bytes maxL rt :: ws) rm) (fun a U => a = as' ∧ Z.Warmed39 U.vm ∧ U.heap = h0) (fun _ _ _ _ _ => True) (fun _ U o U' => ∃ v L, o = .returned v ∧ Q v U'.heap L ∧ FrameEnd U o U' L kc ks) := by
  refine MetFree.of_bodySF hp hisR ?_
  intro p e s m args below meth c s₁ Bd hml0 hP hK
  obtain ⟨rfl, hZ, hh⟩ := hP
  exact body p e s m below meth c s₁ _ (fun o U' h => h) Bd.exec Bd.bytes hml0 (findClass_of_methodNamed Bd.named) (name_of_methodNamed Bd.named Bd.method).1 Bd.returns (BodyLoose.notSynchronized Bd) hZ (Stand.of_body Bd) (by rw [← hh, Bd.state]; rfl)
section Ret
variable {p : Program} {l : Launch} {e : Env} {R : Room} {s : State} {m : MethodId} {args : Array Value} {below : List Frame} {meth : Method} {c : Code} {T : State} {locs : List Loc} {cells slots kc ks : Nat} {QQ : Outcome → State → Prop} {Q : Option Value → Heap → List Loc → Prop}
theorem Goes.fin (X : Stand p l e R s m args below meth c T locs cells slots) (hlk : meth.locks = false) {v : Option Value} (hv : meth.sig.returnType = none → v = none) {g : JFrame}
    (step : ∀ fs : List Frame, (∀ (f : JFrame) (acts : List Action), f.method = m → f.locked = none → f.entered = [] → (doReturn e (T.setTop f) acts v).1 = T.setFrames fs) → Steps p.tables e below (T.setTop g) (T.setFrames fs))
    (hQQ : ∀ o U', EndsQ s Q kc ks o U' → QQ o U') (hq : Q v T.heap locs) (hc : cells ≤ kc) (hs : slots ≤ ks) : Goes p e below QQ (T.setTop g) := by
  obtain ⟨fs, hr, hrun, hended, hW, hsame⟩ := X.leave (v := v) hv hlk
  exact ⟨_, _, step fs hr, hrun, hended, hQQ _ _ ⟨v, locs, rfl, hq, ⟨v, rfl⟩, hW, hsame.mono hc hs⟩⟩
theorem Goes.rI (X : Stand p l e R s m args below meth c T locs cells slots) (hx : p.tables.exec = Jvm.exec) (hret : meth.sig.returnType = some .int) (hlk : meth.locks = false) {pc : Nat} {Ls : Array Slot} {z : Int32} {rest : List Value} (hd : decode c.code pc = .ok (.ireturn, 1))
    (hQQ : ∀ o U', EndsQ s Q kc ks o U' → QQ o U') (hq : Q (some (.int z)) T.heap locs) (hc : cells ≤ kc) (hs : slots ≤ ks) : Goes p e below QQ (T.setTop (mkF m pc Ls (.int z :: rest))) :=
  Goes.fin X hlk (v := some (.int z)) (fun h => by rw [hret] at h; cases h) (fun fs hr => retOut X hx hret rfl (Or.inl ⟨rfl, Or.inl rfl, z, rfl⟩) hd hr) hQQ hq hc hs
theorem Goes.rN (X : Stand p l e R s m args below meth c T locs cells slots) (hx : p.tables.exec = Jvm.exec) {t : FieldType} (hret : meth.sig.returnType = some t) (ht : t = .boolean ∨ t = .byte ∨ t = .char ∨ t = .short) (hlk : meth.locks = false) {pc : Nat} {Ls : Array Slot} {z : Int32} {rest : List Value} (hd : decode c.code pc = .ok (.ireturn, 1))
    (hQQ : ∀ o U', EndsQ s Q kc ks o U' → QQ o U') (hq : Q (some (.int (nar t z))) T.heap locs) (hc : cells ≤ kc) (hs : slots ≤ ks) : Goes p e below QQ (T.setTop (mkF m pc Ls (.int z :: rest))) :=
  Goes.fin X hlk (v := some (.int (nar t z))) (fun h => by rw [hret] at h; cases h) (fun fs hr => retN X hx hret ht hd hr) hQQ hq hc hs
theorem Goes.rJ (X : Stand p l e R s m args below meth c T locs cells slots) (hx : p.tables.exec = Jvm.exec) (hret : meth.sig.returnType = some .long) (hlk : meth.locks = false) {pc : Nat} {Ls : Array Slot} {z : Int64} {rest : List Value} (hd : decode c.code pc = .ok (.lreturn, 1))
    (hQQ : ∀ o U', EndsQ s Q kc ks o U' → QQ o U') (hq : Q (some (.long z)) T.heap locs) (hc : cells ≤ kc) (hs : slots ≤ ks) : Goes p e below QQ (T.setTop (mkF m pc Ls (.long z :: rest))) :=
  Goes.fin X hlk (v := some (.long z)) (fun h => by rw [hret] at h; cases h) (fun fs hr => retOut X hx hret rfl (Or.inr (Or.inl ⟨rfl, rfl, z, rfl⟩)) hd hr) hQQ hq hc hs
theorem Goes.rA (X : Stand p l e R s m args below meth c T locs cells slots) (hx : p.tables.exec = Jvm.exec) {t : FieldType} (hret : meth.sig.returnType = some t) (ht : t.isReference = true) {w : Value} (hw : w.isRef = true) (hlk : meth.locks = false) {pc : Nat} {Ls : Array Slot} {rest : List Value} (hd : decode c.code pc = .ok (.areturn, 1))
    (hQQ : ∀ o U', EndsQ s Q kc ks o U' → QQ o U') (hq : Q (some w) T.heap locs) (hc : cells ≤ kc) (hs : slots ≤ ks) : Goes p e below QQ (T.setTop (mkF m pc Ls (w :: rest))) :=
  Goes.fin X hlk (v := some w) (fun h => by rw [hret] at h; cases h) (fun fs hr => retOut X hx hret (by cases w <;> first | (cases hw; done) | (cases t <;> first | (cases ht; done) | rfl)) (Or.inr (Or.inr (Or.inr (Or.inr ⟨rfl, ht, hw⟩)))) hd hr) hQQ hq hc hs
theorem Goes.rV (X : Stand p l e R s m args below meth c T locs cells slots) (hx : p.tables.exec = Jvm.exec) (hret : meth.sig.returnType = none) (hlk : meth.locks = false) {pc : Nat} {Ls : Array Slot} (hd : decode c.code pc = .ok (.return_, 1))
    (hQQ : ∀ o U', EndsQ s Q kc ks o U' → QQ o U') (hq : Q none T.heap locs) (hc : cells ≤ kc) (hs : slots ≤ ks) : Goes p e below QQ (T.setTop (mkF m pc Ls [])) :=
  Goes.fin X hlk (v := none) (fun _ => rfl) (fun fs hr => X.returnOut hx hret hd hr) hQQ hq hc hs
end Ret
/-- what the law leaves: it returned 1, and nothing old was written -/
def QL (n0 : Nat) (v : Option Value) (h : Heap) (L : List Loc) : Prop := v = some (.int 1) ∧ Fr n0 L
/-- nothing returned, the heap as it was -/
def QV (h0 : Heap) (n0 : Nat) (v : Option Value) (h : Heap) (L : List Loc) : Prop := v = none ∧ Fr n0 L ∧ h = h0
theorem own_nsRoot {Z : State} {a0 : Array Value} {O K : String} {n : Nat} (w : (Jvm.Cond.noSuperclass O).before a0 Z = true) (wi : (Jvm.Cond.instantiable K n).before a0 Z = true) (hn : O ≠ K) : NS Z O K := by
  obtain ⟨c, k, h1, h2, h3, -, -⟩ := Cond.noSuperclass_spec w
  obtain ⟨t, kt, g1, -⟩ := Cond.instantiable_spec wi
  have ne := ids_ne h1 g1 hn
  refine ⟨c, t, h1, g1, fun fuel => ?_⟩
  cases fuel with
  | zero => rfl
  | succ f => simp [Vm.isSubclassAux, ne, h2, h3]
theorem own_nsNo {Z : State} {a0 : Array Value} {C S K : String} {n : Nat} (w : (Jvm.Cond.superclass C S).before a0 Z = true) (wi : (Jvm.Cond.instantiable K n).before a0 Z = true) (ns : NS Z C K) (hn : C ≠ K) : ∃ c t, Z.vm.findClass C = some c ∧ Z.vm.findClass K = some t ∧ Z.vm.assignable c t = false := by
  obtain ⟨c, t, h0, g0, n3⟩ := ns
  obtain ⟨p, k, kp, h1, h2, h3, h4, h5, -, h7⟩ := Cond.superclass_spec h0 w
  obtain ⟨t', kt, g1, g2, g5, g7, -⟩ := Cond.instantiable_spec wi
  cases g0.symm.trans g1
  have g8 : kt.isInterface = false := by
    cases hi : kt.isInterface with
    | false => rfl
    | true => rw [hi] at g7; cases g7
  have ne := ids_ne h0 g0 hn
  refine ⟨c, t, h0, g0, ?_⟩
  show Z.vm.assignableAux (255 + 1) c t = false
  simp [Vm.assignableAux, ne, h2, g2, h5, g5, g8, Vm.isSubclass, n3]
def QB (Z : State) (a1 : Addr) (p1 : Int32) (h0 : Heap) (n0 : Nat) (v : Option Value) (h : Heap) (L : List Loc) : Prop := v = none ∧ Fr n0 L ∧ Keep h0 h [a1] ∧ Fld Z h a1 "com/example/bindery/bindery/BooleanValue" "value" "Z" (.int (p1 &&& 1))
def QN (a1 : Addr) (h0 : Heap) (n0 : Nat) (v : Option Value) (h : Heap) (L : List Loc) : Prop := v = none ∧ Fr n0 L ∧ Keep h0 h [a1]
theorem d2_0 : decode jdk_30_method_1_code 0 = .ok (.aload_n 0, 1) := by decide +kernel
theorem d2_1 : decode jdk_30_method_1_code 1 = .ok (.invokespecial 1, 3) := by decide +kernel
theorem d2_4 : decode jdk_30_method_1_code 4 = .ok (.return_, 1) := by decide +kernel
theorem pn_2 : plainFor (⟨"java/lang/Record", "<init>", "()V"⟩ : MethodName) = true := plainFor_of_name (show plainName "java/lang/Record" = true by first | (simp [plainName, overriddenIn]; done) | decide +kernel)
theorem ef_rmR (m : MethodId) (x0 : Addr) : entryFrame m #[(.ref x0)] 1 = mkF m 0 #[rv x0] [] := by first | (simp [entryFrame, mkF, argsToLocals, Value.category]; done) | rfl
set_option maxRecDepth 65536 in
set_option maxHeartbeats 40000000 in
theorem rmR (l : Launch) (Z : State) (a0 : Array Value) (hw : ∀ d ∈ tables_1, d.before a0 Z = true) (ws : List Jvm.Cond) (a1 : Addr) (h0 : Heap) (n0 : Nat) (Z0 : n0 ≤ h0.size)  :
    MetFree l (⟨"java/lang/Record", "<init>", "()V"⟩ : MethodName) (head1 (Jvm.Cond.code (⟨"java/lang/Record", "<init>", "()V"⟩ : MethodName) jdk_30_method_1_code 1 none :: ws) ({ frames := 1, cells := 0, slots := 0, locals := 12 } : Room)) (fun a U => a = #[(.ref a1)] ∧ Z.Warmed39 U.vm ∧ U.heap = h0) (fun _ _ _ _ _ => True) (fun _ U o U' => ∃ v L, o = .returned v ∧ QV h0 n0 v U'.heap L ∧ FrameEnd U o U' L ({ frames := 1, cells := 0, slots := 0, locals := 12 } : Room).cells ({ frames := 1, cells := 0, slots := 0, locals := 12 } : Room).slots) := by
  refine own_enter pn_2 ?_
  intro p e s m below meth c s₁ QQ hQQ hx hby hml hown hnm hret hlk hZ X0 e0
  have hown : s.vm.findClass "java/lang/Record" = some m.cls := hown
  have hml : c.maxLocals = 1 := hml
  have hret : meth.sig.returnType = none := hret
  have N0 := Fr.nil n0
  have K0 := Keep.refl h0 []
  refine Goes.cast (ef_rmR m a1) ?_
  show Goes p e below QQ (s₁.setTop (mkF m 0 #[rv a1] []))
  refine Goes.on (fun t k => XS.aloadN X0.here hx rfl (hb hby d2_0) rfl rfl k) ?_
  show Goes p e below QQ (s₁.setTop (mkF m 1 #[rv a1] [(.ref a1)]))
  obtain ⟨T1, X1, e1, st1⟩ := initO X0 hx hZ hown (hw _ (List.mem_of_getElem? (i := 11) rfl)) (hw _ (List.mem_of_getElem? (i := 12) rfl)) (hw _ (List.mem_of_getElem? (i := 13) rfl)) e0 (g := (mkF m 1 #[rv a1] [(.ref a1)])) rfl (by rw [hml]; rfl) rfl (hb hby d2_1) (by decide) (W := 0) (by show 2 * 0 + _ ≤ _; exact Nat.le_of_eq rfl) (by decide)
  refine Goes.on (fun t k => st1 t k) ?_
  show Goes p e below QQ (T1.setTop (mkF m 4 #[rv a1] []))
  exact Goes.rV X1 hx hret hlk (hb hby d2_4) hQQ ⟨rfl, N0, e1⟩ (by decide) (by decide)
theorem d1_0 : decode prog_14_method_1_code 0 = .ok (.aload_n 0, 1) := by decide +kernel
theorem d1_1 : decode prog_14_method_1_code 1 = .ok (.invokespecial 1, 3) := by decide +kernel
theorem d1_4 : decode prog_14_method_1_code 4 = .ok (.aload_n 0, 1) := by decide +kernel
theorem d1_5 : decode prog_14_method_1_code 5 = .ok (.iload_n 1, 1) := by decide +kernel
theorem d1_6 : decode prog_14_method_1_code 6 = .ok (.putfield 7, 3) := by decide +kernel
theorem d1_9 : decode prog_14_method_1_code 9 = .ok (.return_, 1) := by decide +kernel
theorem pn_1 : plainFor (⟨"com/example/bindery/bindery/BooleanValue", "<init>", "(Z)V"⟩ : MethodName) = true := plainFor_of_name (show plainName "com/example/bindery/bindery/BooleanValue" = true by first | (simp [plainName, overriddenIn]; done) | decide +kernel)
theorem ef_rm1 (m : MethodId) (x0 : Addr) (x1 : Int32) : entryFrame m #[(.ref x0), (.int x1)] 2 = mkF m 0 #[rv x0, iv x1] [] := by first | (simp [entryFrame, mkF, argsToLocals, Value.category]; done) | rfl
theorem pd_0 : parseMethodDescriptor "()V" = some ⟨[], none⟩ := by decide +kernel
set_option maxRecDepth 65536 in
set_option maxHeartbeats 40000000 in
theorem rm1 (l : Launch) (Z : State) (a0 : Array Value) (hw : ∀ d ∈ tables_1, d.before a0 Z = true) (ws : List Jvm.Cond) (a1 : Addr) (p1 : Int32) (h0 : Heap) (n0 : Nat) (Z0 : n0 ≤ h0.size) (E_a1 : Exa Z h0 a1 "com/example/bindery/bindery/BooleanValue") (F_value_a1 : Fld Z h0 a1 "com/example/bindery/bindery/BooleanValue" "value" "Z" (.int 0)) (g_a1 : n0 ≤ a1) :
    MetFree l (⟨"com/example/bindery/bindery/BooleanValue", "<init>", "(Z)V"⟩ : MethodName) (head1 (Jvm.Cond.code (⟨"com/example/bindery/bindery/BooleanValue", "<init>", "(Z)V"⟩ : MethodName) prog_14_method_1_code 2 none :: ws) ({ frames := 2, cells := 0, slots := 0, locals := 24 } : Room)) (fun a U => a = #[(.ref a1), (.int p1)] ∧ Z.Warmed39 U.vm ∧ U.heap = h0) (fun _ _ _ _ _ => True) (fun _ U o U' => ∃ v L, o = .returned v ∧ QB Z a1 p1 h0 n0 v U'.heap L ∧ FrameEnd U o U' L ({ frames := 2, cells := 0, slots := 0, locals := 24 } : Room).cells ({ frames := 2, cells := 0, slots := 0, locals := 24 } : Room).slots) := by
  refine own_enter pn_1 ?_
  intro p e s m below meth c s₁ QQ hQQ hx hby hml hown hnm hret hlk hZ X0 e0
  have hown : s.vm.findClass "com/example/bindery/bindery/BooleanValue" = some m.cls := hown
  have hml : c.maxLocals = 2 := hml
  have hret : meth.sig.returnType = none := hret
  have N0 := Fr.nil n0
  have K0 := Keep.refl h0 [a1]
  refine Goes.cast (ef_rm1 m a1 p1) ?_
  show Goes p e below QQ (s₁.setTop (mkF m 0 #[rv a1, iv p1] []))
  refine Goes.on (fun t k => XS.aloadN X0.here hx rfl (hb hby d1_0) rfl rfl k) ?_
  show Goes p e below QQ (s₁.setTop (mkF m 1 #[rv a1, iv p1] [(.ref a1)]))
  obtain ⟨_, _, ⟨T1, L1, k1, n1⟩, -, X1, ⟨Lc1, hQ1, l1, y1, z1⟩, st1⟩ := X0.specialBack hx (y := (⟨"java/lang/Record", "<init>", "()V"⟩ : MethodName)) rfl hown (mvT hZ (hw _ (List.mem_of_getElem? (i := 6) rfl))) (mvT hZ (hw _ (List.mem_of_getElem? (i := 7) rfl))) (mvT hZ (hw _ (List.mem_of_getElem? (i := 10) rfl))) (by decide) (backOf (W := 0) (rmR l Z a0 hw [] a1 h0 n0 (Nat.le_trans Z0 K0.1)) hZ (hw _ (List.mem_of_getElem? (i := 10) rfl)) (hw _ (List.mem_of_getElem? (i := 9) rfl)) (by decide) (by decide)) (g := (mkF m 1 #[rv a1, iv p1] [(.ref a1)])) rfl (by rw [hml]; rfl) (Steps.refl _) (a := a1) (argsL := []) (rest := []) (lenOf pd_0 rfl) rfl (by show 2 * 0 + _ ≤ _; exact Nat.le_of_eq rfl) (hb hby d1_1) (fun _ _ => ⟨rfl, e0, (by decide : 0 + 0 ≤ _), (by decide : 0 + 0 ≤ _)⟩)
  dsimp only [Pt.U, Pt.locs, Pt.cells, Pt.slots] at X1 l1 y1 z1 st1 hQ1
  subst l1 y1 z1
  obtain ⟨rfl, M1, e1⟩ := hQ1
  have N1 := Fr.app N0 M1
  refine Goes.on (fun t k => st1.trans k) ?_
  show Goes p e below QQ (T1.setTop (mkF m 4 #[rv a1, iv p1] []))
  refine Goes.on (fun t k => XS.aloadN X1.here hx rfl (hb hby d1_4) rfl rfl k) ?_
  show Goes p e below QQ (T1.setTop (mkF m 5 #[rv a1, iv p1] [(.ref a1)]))
  refine Goes.on (fun t k => XS.iloadN X1.here hx rfl (hb hby d1_5) rfl k) ?_
  show Goes p e below QQ (T1.setTop (mkF m 6 #[rv a1, iv p1] [(.int p1), (.ref a1)]))
  obtain ⟨T2, h2, X2, e2, W2, st2⟩ := putFN X1 hx hZ hown (hw _ (List.mem_of_getElem? (i := 14) rfl)) Via.refl e1 F_value_a1 E_a1 (Or.inr ⟨(hw _ (List.mem_of_getElem? (i := 15) rfl)), rfl, hnm⟩) (hw _ (List.mem_of_getElem? (i := 1) rfl)) (ty := .boolean) (v' := (.int (p1 &&& 1))) (by decide) rfl (fits_nar_bool _) (g := (mkF m 6 #[rv a1, iv p1] [(.int p1), (.ref a1)])) rfl rfl (hb hby d1_6)
  have E_3 := E_a1.wr W2
  have K2 := K0.wr W2 (Or.inl (List.mem_of_getElem? (i := 0) rfl))
  have N2 := Fr.snoc X2 N1 g_a1
  have F_4 := (F_value_a1.same W2 : Fld Z h2 a1 "com/example/bindery/bindery/BooleanValue" "value" "Z" (.int (p1 &&& 1)))
  refine Goes.on (fun t k => st2 t k) ?_
  show Goes p e below QQ (T2.setTop (mkF m 9 #[rv a1, iv p1] []))
  exact Goes.rV X2 hx hret hlk (hb hby d1_9) hQQ (by rw [e2]; exact ⟨rfl, N2, K2, F_4⟩) (by decide) (by decide)
theorem d4_0 : decode prog_130_method_1_code 0 = .ok (.aload_n 0, 1) := by decide +kernel
theorem d4_1 : decode prog_130_method_1_code 1 = .ok (.invokespecial 1, 3) := by decide +kernel
theorem d4_4 : decode prog_130_method_1_code 4 = .ok (.aload_n 0, 1) := by decide +kernel
theorem d4_5 : decode prog_130_method_1_code 5 = .ok (.lload_n 1, 1) := by decide +kernel
theorem d4_6 : decode prog_130_method_1_code 6 = .ok (.putfield 7, 3) := by decide +kernel
theorem d4_9 : decode prog_130_method_1_code 9 = .ok (.return_, 1) := by decide +kernel
theorem pn_4 : plainFor (⟨"com/example/bindery/bindery/IntegerValue", "<init>", "(J)V"⟩ : MethodName) = true := plainFor_of_name (show plainName "com/example/bindery/bindery/IntegerValue" = true by first | (simp [plainName, overriddenIn]; done) | decide +kernel)
theorem ef_rm2 (m : MethodId) (x0 : Addr) (x1 : Int64) : entryFrame m #[(.ref x0), (.long x1)] 3 = mkF m 0 #[rv x0, .val (.long x1), .second] [] := by first | (simp [entryFrame, mkF, argsToLocals, Value.category]; done) | rfl
set_option maxRecDepth 65536 in
set_option maxHeartbeats 40000000 in
theorem rm2 (l : Launch) (Z : State) (a0 : Array Value) (hw : ∀ d ∈ tables_1, d.before a0 Z = true) (ws : List Jvm.Cond) (a1 : Addr) (p1 : Int64) (h0 : Heap) (n0 : Nat) (Z0 : n0 ≤ h0.size) (E_a1 : Exa Z h0 a1 "com/example/bindery/bindery/IntegerValue") (F_value_a1 : Fld Z h0 a1 "com/example/bindery/bindery/IntegerValue" "value" "J" (.long (0 : Int64))) (g_a1 : n0 ≤ a1) :
    MetFree l (⟨"com/example/bindery/bindery/IntegerValue", "<init>", "(J)V"⟩ : MethodName) (head1 (Jvm.Cond.code (⟨"com/example/bindery/bindery/IntegerValue", "<init>", "(J)V"⟩ : MethodName) prog_130_method_1_code 3 none :: ws) ({ frames := 2, cells := 0, slots := 0, locals := 24 } : Room)) (fun a U => a = #[(.ref a1), (.long p1)] ∧ Z.Warmed39 U.vm ∧ U.heap = h0) (fun _ _ _ _ _ => True) (fun _ U o U' => ∃ v L, o = .returned v ∧ QN a1 h0 n0 v U'.heap L ∧ FrameEnd U o U' L ({ frames := 2, cells := 0, slots := 0, locals := 24 } : Room).cells ({ frames := 2, cells := 0, slots := 0, locals := 24 } : Room).slots) := by
  refine own_enter pn_4 ?_
  intro p e s m below meth c s₁ QQ hQQ hx hby hml hown hnm hret hlk hZ X0 e0
  have hown : s.vm.findClass "com/example/bindery/bindery/IntegerValue" = some m.cls := hown
  have hml : c.maxLocals = 3 := hml
  have hret : meth.sig.returnType = none := hret
  have N0 := Fr.nil n0
  have K0 := Keep.refl h0 [a1]
  refine Goes.cast (ef_rm2 m a1 p1) ?_
  show Goes p e below QQ (s₁.setTop (mkF m 0 #[rv a1, .val (.long p1), .second] []))
  refine Goes.on (fun t k => XS.aloadN X0.here hx rfl (hb hby d4_0) rfl rfl k) ?_
  show Goes p e below QQ (s₁.setTop (mkF m 1 #[rv a1, .val (.long p1), .second] [(.ref a1)]))
  obtain ⟨_, _, ⟨T1, L1, k1, n1⟩, -, X1, ⟨Lc1, hQ1, l1, y1, z1⟩, st1⟩ := X0.specialBack hx (y := (⟨"java/lang/Record", "<init>", "()V"⟩ : MethodName)) rfl hown (mvT hZ (hw _ (List.mem_of_getElem? (i := 22) rfl))) (mvT hZ (hw _ (List.mem_of_getElem? (i := 7) rfl))) (mvT hZ (hw _ (List.mem_of_getElem? (i := 10) rfl))) (by decide) (backOf (W := 0) (rmR l Z a0 hw [] a1 h0 n0 (Nat.le_trans Z0 K0.1)) hZ (hw _ (List.mem_of_getElem? (i := 10) rfl)) (hw _ (List.mem_of_getElem? (i := 9) rfl)) (by decide) (by decide)) (g := (mkF m 1 #[rv a1, .val (.long p1), .second] [(.ref a1)])) rfl (by rw [hml]; rfl) (Steps.refl _) (a := a1) (argsL := []) (rest := []) (lenOf pd_0 rfl) rfl (by show 2 * 0 + _ ≤ _; exact Nat.le_of_eq rfl) (hb hby d4_1) (fun _ _ => ⟨rfl, e0, (by decide : 0 + 0 ≤ _), (by decide : 0 + 0 ≤ _)⟩)
  dsimp only [Pt.U, Pt.locs, Pt.cells, Pt.slots] at X1 l1 y1 z1 st1 hQ1
  subst l1 y1 z1
  obtain ⟨rfl, M1, e1⟩ := hQ1
  have N1 := Fr.app N0 M1
  refine Goes.on (fun t k => st1.trans k) ?_
  show Goes p e below QQ (T1.setTop (mkF m 4 #[rv a1, .val (.long p1), .second] []))
  refine Goes.on (fun t k => XS.aloadN X1.here hx rfl (hb hby d4_4) rfl rfl k) ?_
  show Goes p e below QQ (T1.setTop (mkF m 5 #[rv a1, .val (.long p1), .second] [(.ref a1)]))
  refine Goes.on (fun t k => XS.lloadN X1.here hx rfl (hb hby d4_5) rfl k) ?_
  show Goes p e below QQ (T1.setTop (mkF m 6 #[rv a1, .val (.long p1), .second] [(.long p1), (.ref a1)]))
  obtain ⟨T2, h2, X2, e2, W2, st2⟩ := putF X1 hx hZ hown (host := "") (Or.inl (hw _ (List.mem_of_getElem? (i := 23) rfl))) Via.refl e1 F_value_a1 E_a1 (Or.inr ⟨(hw _ (List.mem_of_getElem? (i := 24) rfl)), rfl, hnm⟩) (hw _ (List.mem_of_getElem? (i := 17) rfl)) (ty := .long) (by decide) rfl rfl (g := (mkF m 6 #[rv a1, .val (.long p1), .second] [(.long p1), (.ref a1)])) rfl rfl (hb hby d4_6)
  have E_3 := E_a1.wr W2
  have K2 := K0.wr W2 (Or.inl (List.mem_of_getElem? (i := 0) rfl))
  have N2 := Fr.snoc X2 N1 g_a1
  have F_4 := (F_value_a1.same W2 : Fld Z h2 a1 "com/example/bindery/bindery/IntegerValue" "value" "J" (.long p1))
  refine Goes.on (fun t k => st2 t k) ?_
  show Goes p e below QQ (T2.setTop (mkF m 9 #[rv a1, .val (.long p1), .second] []))
  exact Goes.rV X2 hx hret hlk (hb hby d4_9) hQQ (by rw [e2]; exact ⟨rfl, N2, K2⟩) (by decide) (by decide)
theorem d5_0 : decode prog_14_method_4_code 0 = .ok (.aload_n 1, 1) := by decide +kernel
theorem d5_1 : decode prog_14_method_4_code 1 = .ok (.instanceof 8, 3) := by decide +kernel
theorem d5_4 : decode prog_14_method_4_code 4 = .ok (.ifCond .eq 23, 3) := by decide +kernel
theorem d5_7 : decode prog_14_method_4_code 7 = .ok (.aload_n 1, 1) := by decide +kernel
theorem d5_8 : decode prog_14_method_4_code 8 = .ok (.checkcast 8, 3) := by decide +kernel
theorem d5_11 : decode prog_14_method_4_code 11 = .ok (.astore_n 2, 1) := by decide +kernel
theorem d5_12 : decode prog_14_method_4_code 12 = .ok (.aload_n 2, 1) := by decide +kernel
theorem d5_13 : decode prog_14_method_4_code 13 = .ok (.getfield 7, 3) := by decide +kernel
theorem d5_16 : decode prog_14_method_4_code 16 = .ok (.aload_n 0, 1) := by decide +kernel
theorem d5_17 : decode prog_14_method_4_code 17 = .ok (.getfield 7, 3) := by decide +kernel
theorem d5_20 : decode prog_14_method_4_code 20 = .ok (.if_icmp .ne 7, 3) := by decide +kernel
theorem d5_23 : decode prog_14_method_4_code 23 = .ok (.iconst 1, 1) := by decide +kernel
theorem d5_24 : decode prog_14_method_4_code 24 = .ok (.goto 4, 3) := by decide +kernel
theorem d5_27 : decode prog_14_method_4_code 27 = .ok (.iconst 0, 1) := by decide +kernel
theorem d5_28 : decode prog_14_method_4_code 28 = .ok (.ireturn, 1) := by decide +kernel
theorem pn_5 : plainFor (⟨"com/example/bindery/bindery/BooleanValue", "equals", "(Ljava/lang/Object;)Z"⟩ : MethodName) = true := plainFor_of_name (show plainName "com/example/bindery/bindery/BooleanValue" = true by first | (simp [plainName, overriddenIn]; done) | decide +kernel)
theorem ef_rm3a (m : MethodId) (x0 : Addr) : entryFrame m #[(.ref x0), .null] 3 = mkF m 0 #[rv x0, .val .null, .unset] [] := by first | (simp [entryFrame, mkF, argsToLocals, Value.category]; done) | rfl
set_option maxRecDepth 65536 in
set_option maxHeartbeats 40000000 in
theorem rm3a (l : Launch) (Z : State) (a0 : Array Value) (hw : ∀ d ∈ tables_1, d.before a0 Z = true) (ws : List Jvm.Cond) (a1 : Addr) (h0 : Heap) (n0 : Nat) (Z0 : n0 ≤ h0.size)  :
    MetFree l (⟨"com/example/bindery/bindery/BooleanValue", "equals", "(Ljava/lang/Object;)Z"⟩ : MethodName) (head1 (Jvm.Cond.code (⟨"com/example/bindery/bindery/BooleanValue", "equals", "(Ljava/lang/Object;)Z"⟩ : MethodName) prog_14_method_4_code 3 (some .boolean) :: ws) ({ frames := 0, cells := 0, slots := 0, locals := 0 } : Room)) (fun a U => a = #[(.ref a1), .null] ∧ Z.Warmed39 U.vm ∧ U.heap = h0) (fun _ _ _ _ _ => True) (fun _ U o U' => ∃ v L, o = .returned v ∧ QP (.int (0 : Int32)) h0 n0 v U'.heap L ∧ FrameEnd U o U' L ({ frames := 0, cells := 0, slots := 0, locals := 0 } : Room).cells ({ frames := 0, cells := 0, slots := 0, locals := 0 } : Room).slots) := by
  refine own_enter pn_5 ?_
  intro p e s m below meth c s₁ QQ hQQ hx hby hml hown hnm hret hlk hZ X0 e0
  have hown : s.vm.findClass "com/example/bindery/bindery/BooleanValue" = some m.cls := hown
  have hml : c.maxLocals = 3 := hml
  have hret : meth.sig.returnType = some .boolean := hret
  have N0 := Fr.nil n0
  have K0 := Keep.refl h0 []
  refine Goes.cast (ef_rm3a m a1) ?_
  show Goes p e below QQ (s₁.setTop (mkF m 0 #[rv a1, .val .null, .unset] []))
  refine Goes.on (fun t k => XS.aloadN X0.here hx rfl (hb hby d5_0) rfl rfl k) ?_
  show Goes p e below QQ (s₁.setTop (mkF m 1 #[rv a1, .val .null, .unset] [.null]))
  refine Goes.on (fun t k => X0.instanceofNull hx (g := (mkF m 1 #[rv a1, .val .null, .unset] [.null])) rfl rfl (hb hby d5_1) t k) ?_
  show Goes p e below QQ (s₁.setTop (mkF m 4 #[rv a1, .val .null, .unset] [(.int 0)]))
  refine Goes.on (fun t k => XS.ifYes X0.here hx rfl (pc0 := 4) (pc' := 27) rfl (hb hby d5_4) rfl ((if0 _ _).trans (teq (by decide)).1) (by decide) (by decide) k) ?_
  show Goes p e below QQ (s₁.setTop (mkF m 27 #[rv a1, .val .null, .unset] []))
  refine Goes.on (fun t k => XS.iconst X0.here hx rfl (hb hby d5_27) k) ?_
  show Goes p e below QQ (s₁.setTop (mkF m 28 #[rv a1, .val .null, .unset] [(.int 0)]))
  exact Goes.rN X0 hx (t := .boolean) hret (by simp) hlk (hb hby d5_28) hQQ ⟨rfl, N0, e0⟩ (by decide) (by decide)
theorem ef_rm3b (m : MethodId) (x0 : Addr) (x1 : Addr) : entryFrame m #[(.ref x0), (.ref x1)] 3 = mkF m 0 #[rv x0, rv x1, .unset] [] := by first | (simp [entryFrame, mkF, argsToLocals, Value.category]; done) | rfl
def eqB (xx : Int32) (yy : Int32) : Int32 := (if yy = xx then (1 : Int32) else (0 : Int32))
set_option maxRecDepth 65536 in
set_option maxHeartbeats 40000000 in
theorem rm3b (l : Launch) (Z : State) (a0 : Array Value) (hw : ∀ d ∈ tables_1, d.before a0 Z = true) (ws : List Jvm.Cond) (a1 : Addr) (a2 : Addr) (xx yy : Int32) (h0 : Heap) (n0 : Nat) (Z0 : n0 ≤ h0.size) (E_a2 : Exa Z h0 a2 "com/example/bindery/bindery/BooleanValue") (F_value_a1 : Fld Z h0 a1 "com/example/bindery/bindery/BooleanValue" "value" "Z" (.int xx)) (F_value_a2 : Fld Z h0 a2 "com/example/bindery/bindery/BooleanValue" "value" "Z" (.int yy)) :
    MetFree l (⟨"com/example/bindery/bindery/BooleanValue", "equals", "(Ljava/lang/Object;)Z"⟩ : MethodName) (head1 (Jvm.Cond.code (⟨"com/example/bindery/bindery/BooleanValue", "equals", "(Ljava/lang/Object;)Z"⟩ : MethodName) prog_14_method_4_code 3 (some .boolean) :: ws) ({ frames := 0, cells := 0, slots := 0, locals := 0 } : Room)) (fun a U => a = #[(.ref a1), (.ref a2)] ∧ Z.Warmed39 U.vm ∧ U.heap = h0) (fun _ _ _ _ _ => True) (fun _ U o U' => ∃ v L, o = .returned v ∧ QP (.int (eqB xx yy)) h0 n0 v U'.heap L ∧ FrameEnd U o U' L ({ frames := 0, cells := 0, slots := 0, locals := 0 } : Room).cells ({ frames := 0, cells := 0, slots := 0, locals := 0 } : Room).slots) := by
  refine own_enter pn_5 ?_
  intro p e s m below meth c s₁ QQ hQQ hx hby hml hown hnm hret hlk hZ X0 e0
  have hown : s.vm.findClass "com/example/bindery/bindery/BooleanValue" = some m.cls := hown
  have hml : c.maxLocals = 3 := hml
  have hret : meth.sig.returnType = some .boolean := hret
  have N0 := Fr.nil n0
  have K0 := Keep.refl h0 []
  refine Goes.cast (ef_rm3b m a1 a2) ?_
  show Goes p e below QQ (s₁.setTop (mkF m 0 #[rv a1, rv a2, .unset] []))
  refine Goes.on (fun t k => XS.aloadN X0.here hx rfl (hb hby d5_0) rfl rfl k) ?_
  show Goes p e below QQ (s₁.setTop (mkF m 1 #[rv a1, rv a2, .unset] [(.ref a2)]))
  obtain ⟨T1, X1, e1, st1⟩ := instY X0 hx hZ hown (hw _ (List.mem_of_getElem? (i := 30) rfl)) e0 (Ins.self E_a2) (g := (mkF m 1 #[rv a1, rv a2, .unset] [(.ref a2)])) rfl rfl (hb hby d5_1)
  refine Goes.on (fun t k => st1 t k) ?_
  show Goes p e below QQ (T1.setTop (mkF m 4 #[rv a1, rv a2, .unset] [(.int 1)]))
  refine Goes.on (fun t k => XS.ifNo X1.here hx rfl (hb hby d5_4) rfl ((if0 _ _).trans (feq (by decide)).1) k) ?_
  show Goes p e below QQ (T1.setTop (mkF m 7 #[rv a1, rv a2, .unset] []))
  refine Goes.on (fun t k => XS.aloadN X1.here hx rfl (hb hby d5_7) rfl rfl k) ?_
  show Goes p e below QQ (T1.setTop (mkF m 8 #[rv a1, rv a2, .unset] [(.ref a2)]))
  obtain ⟨T2, X2, e2, st2⟩ := castY X1 hx hZ hown (hw _ (List.mem_of_getElem? (i := 30) rfl)) e1 (Ins.self E_a2) (g := (mkF m 8 #[rv a1, rv a2, .unset] [(.ref a2)])) rfl rfl (hb hby d5_8)
  refine Goes.on (fun t k => st2 t k) ?_
  show Goes p e below QQ (T2.setTop (mkF m 11 #[rv a1, rv a2, .unset] [(.ref a2)]))
  refine Goes.on (fun t k => XS.astoreN X2.here hx rfl (hb hby d5_11) rfl rfl (l' := #[rv a1, rv a2, rv a2]) rfl k) ?_
  show Goes p e below QQ (T2.setTop (mkF m 12 #[rv a1, rv a2, rv a2] []))
  refine Goes.on (fun t k => XS.aloadN X2.here hx rfl (hb hby d5_12) rfl rfl k) ?_
  show Goes p e below QQ (T2.setTop (mkF m 13 #[rv a1, rv a2, rv a2] [(.ref a2)]))
  obtain ⟨T3, X3, e3, st3⟩ := getF X2 hx hZ hown (host := "") (Or.inl (hw _ (List.mem_of_getElem? (i := 14) rfl))) Via.refl e2 F_value_a2 (g := (mkF m 13 #[rv a1, rv a2, rv a2] [(.ref a2)])) rfl rfl (hb hby d5_13)
  refine Goes.on (fun t k => st3 t k) ?_
  show Goes p e below QQ (T3.setTop (mkF m 16 #[rv a1, rv a2, rv a2] [(.int yy)]))
  refine Goes.on (fun t k => XS.aloadN X3.here hx rfl (hb hby d5_16) rfl rfl k) ?_
  show Goes p e below QQ (T3.setTop (mkF m 17 #[rv a1, rv a2, rv a2] [(.ref a1), (.int yy)]))
  obtain ⟨T4, X4, e4, st4⟩ := getF X3 hx hZ hown (host := "") (Or.inl (hw _ (List.mem_of_getElem? (i := 14) rfl))) Via.refl e3 F_value_a1 (g := (mkF m 17 #[rv a1, rv a2, rv a2] [(.ref a1), (.int yy)])) rfl rfl (hb hby d5_17)
  refine Goes.on (fun t k => st4 t k) ?_
  show Goes p e below QQ (T4.setTop (mkF m 20 #[rv a1, rv a2, rv a2] [(.int xx), (.int yy)]))
  by_cases hb5 : yy = xx
  · refine Goes.on (fun t k => XS.icmpNo X4.here hx rfl (hb hby d5_20) rfl (teq hb5).2 k) ?_
    show Goes p e below QQ (T4.setTop (mkF m 23 #[rv a1, rv a2, rv a2] []))
    refine Goes.on (fun t k => XS.iconst X4.here hx rfl (hb hby d5_23) k) ?_
    show Goes p e below QQ (T4.setTop (mkF m 24 #[rv a1, rv a2, rv a2] [(.int 1)]))
    refine Goes.on (fun t k => XS.goto X4.here hx rfl (pc0 := 24) (pc' := 28) rfl (hb hby d5_24) (by decide) (by decide) k) ?_
    show Goes p e below QQ (T4.setTop (mkF m 28 #[rv a1, rv a2, rv a2] [(.int 1)]))
    have hv : nar .boolean (1 : Int32) = (1 : Int32) := rfl
    exact Goes.rN X4 hx (t := .boolean) hret (by simp) hlk (hb hby d5_28) hQQ ⟨congrArg (fun z => some (Value.int z)) (hv.trans (((if_pos hb5).trans rfl) : (eqB xx yy) = (1 : Int32)).symm), N0, e4⟩ (by decide) (by decide)
  · refine Goes.on (fun t k => XS.icmpYes X4.here hx rfl (pc0 := 20) (pc' := 27) rfl (hb hby d5_20) rfl (feq hb5).2 (by decide) (by decide) k) ?_
    show Goes p e below QQ (T4.setTop (mkF m 27 #[rv a1, rv a2, rv a2] []))
    refine Goes.on (fun t k => XS.iconst X4.here hx rfl (hb hby d5_27) k) ?_
    show Goes p e below QQ (T4.setTop (mkF m 28 #[rv a1, rv a2, rv a2] [(.int 0)]))
    have hv : nar .boolean (0 : Int32) = (0 : Int32) := rfl
    exact Goes.rN X4 hx (t := .boolean) hret (by simp) hlk (hb hby d5_28) hQQ ⟨congrArg (fun z => some (Value.int z)) (hv.trans (((if_neg hb5).trans rfl) : (eqB xx yy) = (0 : Int32)).symm), N0, e4⟩ (by decide) (by decide)
theorem ef_rm3c (m : MethodId) (x0 : Addr) (x1 : Addr) : entryFrame m #[(.ref x0), (.ref x1)] 3 = mkF m 0 #[rv x0, rv x1, .unset] [] := by first | (simp [entryFrame, mkF, argsToLocals, Value.category]; done) | rfl
set_option maxRecDepth 65536 in
set_option maxHeartbeats 40000000 in
theorem rm3c (l : Launch) (Z : State) (a0 : Array Value) (hw : ∀ d ∈ tables_1, d.before a0 Z = true) (ws : List Jvm.Cond) (a1 a2 : Addr) (h0 : Heap) (n0 : Nat) (Z0 : n0 ≤ h0.size) (E_a2 : Exa Z h0 a2 "com/example/bindery/bindery/IntegerValue") :
    MetFree l (⟨"com/example/bindery/bindery/BooleanValue", "equals", "(Ljava/lang/Object;)Z"⟩ : MethodName) (head1 (Jvm.Cond.code (⟨"com/example/bindery/bindery/BooleanValue", "equals", "(Ljava/lang/Object;)Z"⟩ : MethodName) prog_14_method_4_code 3 (some .boolean) :: ws) ({ frames := 0, cells := 0, slots := 0, locals := 0 } : Room)) (fun a U => a = #[(.ref a1), (.ref a2)] ∧ Z.Warmed39 U.vm ∧ U.heap = h0) (fun _ _ _ _ _ => True) (fun _ U o U' => ∃ v L, o = .returned v ∧ QP (.int (0 : Int32)) h0 n0 v U'.heap L ∧ FrameEnd U o U' L ({ frames := 0, cells := 0, slots := 0, locals := 0 } : Room).cells ({ frames := 0, cells := 0, slots := 0, locals := 0 } : Room).slots) := by
  refine own_enter pn_5 ?_
  intro p e s m below meth c s₁ QQ hQQ hx hby hml hown hnm hret hlk hZ X0 e0
  have hown : s.vm.findClass "com/example/bindery/bindery/BooleanValue" = some m.cls := hown
  have hml : c.maxLocals = 3 := hml
  have hret : meth.sig.returnType = some .boolean := hret
  have N0 := Fr.nil n0
  have K0 := Keep.refl h0 []
  refine Goes.cast (ef_rm3c m a1 a2) ?_
  show Goes p e below QQ (s₁.setTop (mkF m 0 #[rv a1, rv a2, .unset] []))
  refine Goes.on (fun t k => XS.aloadN X0.here hx rfl (hb hby d5_0) rfl rfl k) ?_
  show Goes p e below QQ (s₁.setTop (mkF m 1 #[rv a1, rv a2, .unset] [(.ref a2)]))
  obtain ⟨T1, X1, e1, st1⟩ := instNo X0 hx hZ hown (hw _ (List.mem_of_getElem? (i := 30) rfl)) e0 E_a2 (own_nsNo (hw _ (List.mem_of_getElem? (i := 31) rfl)) (hw _ (List.mem_of_getElem? (i := 1) rfl)) (NS.step (hw _ (List.mem_of_getElem? (i := 31) rfl)) (NS.step (hw _ (List.mem_of_getElem? (i := 32) rfl)) (own_nsRoot (hw _ (List.mem_of_getElem? (i := 33) rfl)) (hw _ (List.mem_of_getElem? (i := 1) rfl)) (by decide)) (by decide)) (by decide)) (by decide)) (g := (mkF m 1 #[rv a1, rv a2, .unset] [(.ref a2)])) rfl rfl (hb hby d5_1)
  refine Goes.on (fun t k => st1 t k) ?_
  show Goes p e below QQ (T1.setTop (mkF m 4 #[rv a1, rv a2, .unset] [(.int 0)]))
  refine Goes.on (fun t k => XS.ifYes X1.here hx rfl (pc0 := 4) (pc' := 27) rfl (hb hby d5_4) rfl ((if0 _ _).trans (teq (by decide)).1) (by decide) (by decide) k) ?_
  show Goes p e below QQ (T1.setTop (mkF m 27 #[rv a1, rv a2, .unset] []))
  refine Goes.on (fun t k => XS.iconst X1.here hx rfl (hb hby d5_27) k) ?_
  show Goes p e below QQ (T1.setTop (mkF m 28 #[rv a1, rv a2, .unset] [(.int 0)]))
  exact Goes.rN X1 hx (t := .boolean) hret (by simp) hlk (hb hby d5_28) hQQ ⟨rfl, N0, e1⟩ (by decide) (by decide)
theorem pn_0 : plainFor x = true := plainFor_of_name (show plainName "com/example/bindery/bindery/BooleanValueEqualsPinLaw" = true by first | (simp [plainName, overriddenIn]; done) | decide +kernel)
theorem ef_rm0 (m : MethodId) (x0 : Int32) (x1 : Int32) (x2 : Int32) (x3 : Int64) : entryFrame m #[(.int x0), (.int x1), (.int x2), (.long x3)] maxLocals = mkF m 0 #[iv x0, iv x1, iv x2, .val (.long x3), .second, .unset, .unset, .unset, .unset, .unset, .unset] [] := by first | (simp [entryFrame, mkF, argsToLocals, Value.category, maxLocals]; done) | rfl
theorem pd_1 : parseMethodDescriptor "(Z)V" = some ⟨[.boolean], none⟩ := by decide +kernel
theorem pd_2 : parseMethodDescriptor "(J)V" = some ⟨[.long], none⟩ := by decide +kernel
theorem pd_3 : parseMethodDescriptor "(Ljava/lang/Object;)Z" = some ⟨[(.object "java/lang/Object")], some .boolean⟩ := by decide +kernel
def lawF (p1 p2 p3 : Int32) : Int32 := (if (p3 &&& (3 : Int32)) = (2 : Int32) then (if (0 : Int32) = (if (p3 &&& (3 : Int32)) < (2 : Int32) then (if (if (p1 &&& (1 : Int32)) = (0 : Int32) then (0 : Int32) else (1 : Int32)) = (if (p2 &&& (1 : Int32)) = (0 : Int32) then (0 : Int32) else (1 : Int32)) then (1 : Int32) else (0 : Int32)) else (0 : Int32)) then (1 : Int32) else (0 : Int32)) else (if (p3 &&& (3 : Int32)) = (3 : Int32) then (if (0 : Int32) = (if (p3 &&& (3 : Int32)) < (2 : Int32) then (if (if (p1 &&& (1 : Int32)) = (0 : Int32) then (0 : Int32) else (1 : Int32)) = (if (p2 &&& (1 : Int32)) = (0 : Int32) then (0 : Int32) else (1 : Int32)) then (1 : Int32) else (0 : Int32)) else (0 : Int32)) then (1 : Int32) else (0 : Int32)) else (if (eqB ((if (p1 &&& (1 : Int32)) = (0 : Int32) then (0 : Int32) else (1 : Int32)) &&& 1) ((if (p2 &&& (1 : Int32)) = (0 : Int32) then (0 : Int32) else (1 : Int32)) &&& 1)) = (if (p3 &&& (3 : Int32)) < (2 : Int32) then (if (if (p1 &&& (1 : Int32)) = (0 : Int32) then (0 : Int32) else (1 : Int32)) = (if (p2 &&& (1 : Int32)) = (0 : Int32) then (0 : Int32) else (1 : Int32)) then (1 : Int32) else (0 : Int32)) else (0 : Int32)) then (1 : Int32) else (0 : Int32))))
theorem own_k3 (x1 : Int32) : (x1 &&& (3 : Int32)).toInt = x1.toInt % 4 := c_mask x1 3 2 (by decide) (by decide)
theorem lawT (p1 p2 p3 : Int32) : lawF p1 p2 p3 = 1 := by
  have q := own_k3 p3
  have e2 : (2 : Int32).toInt = 2 := by decide
  have e3 : (3 : Int32).toInt = 3 := by decide
  unfold lawF eqB
  generalize (p3 &&& (3 : Int32)) = k at *
  by_cases c1 : (p1 &&& (1 : Int32)) = (0 : Int32) <;> by_cases c2 : (p2 &&& (1 : Int32)) = (0 : Int32) <;> by_cases c3 : k = (2 : Int32) <;> by_cases c4 : k = (3 : Int32) <;> by_cases c5 : k < (2 : Int32)
  all_goals first
    | (simp +decide [c1, c2, c3, c4, c5]; done)
    | (exfalso; rw [Int32.lt_iff_toInt_lt, e2] at c5; rw [← Int32.toInt_inj, e2] at c3; rw [← Int32.toInt_inj, e3] at c4; omega)
set_option maxRecDepth 65536 in
set_option maxHeartbeats 40000000 in
theorem rm0 (l : Launch) (Z : State) (a0 : Array Value) (hw : ∀ d ∈ tables_1, d.before a0 Z = true) (ws : List Jvm.Cond) (p1 p2 p3 : Int32) (p4 : Int64) (h0 : Heap) (n0 : Nat) (Z0 : n0 ≤ h0.size)  :
    MetFree l x (head1 (Jvm.Cond.code x code maxLocals ret :: ws) room_1) (fun a U => a = #[(.int p1), (.int p2), (.int p3), (.long p4)] ∧ Z.Warmed39 U.vm ∧ U.heap = h0) (fun _ _ _ _ _ => True) (fun _ U o U' => ∃ v L, o = .returned v ∧ QL n0 v U'.heap L ∧ FrameEnd U o U' L 16 128) := by
  refine own_enter pn_0 ?_
  intro p e s m below meth c s₁ QQ hQQ hx hby hml hown hnm hret hlk hZ X0 e0
  have hown : s.vm.findClass "com/example/bindery/bindery/BooleanValueEqualsPinLaw" = some m.cls := hown
  have hml : c.maxLocals = 11 := hml
  have hret : meth.sig.returnType = some .boolean := hret
  have N0 := Fr.nil n0
  have K0 := Keep.refl h0 []
  refine Goes.cast (ef_rm0 m p1 p2 p3 p4) ?_
  show Goes p e below QQ (s₁.setTop (mkF m 0 #[iv p1, iv p2, iv p3, .val (.long p4), .second, .unset, .unset, .unset, .unset, .unset, .unset] []))
  refine Goes.on (fun t k => XS.iloadN X0.here hx rfl (hb hby at_0) rfl k) ?_
  show Goes p e below QQ (s₁.setTop (mkF m 1 #[iv p1, iv p2, iv p3, .val (.long p4), .second, .unset, .unset, .unset, .unset, .unset, .unset] [(.int p1)]))
  refine Goes.on (fun t k => XS.iconst X0.here hx rfl (hb hby at_1) k) ?_
  show Goes p e below QQ (s₁.setTop (mkF m 2 #[iv p1, iv p2, iv p3, .val (.long p4), .second, .unset, .unset, .unset, .unset, .unset, .unset] [(.int 1), (.int p1)]))
  refine Goes.on (fun t k => XS.iand X0.here hx rfl (hb hby at_2) rfl k) ?_
  show Goes p e below QQ (s₁.setTop (mkF m 3 #[iv p1, iv p2, iv p3, .val (.long p4), .second, .unset, .unset, .unset, .unset, .unset, .unset] [(.int (p1 &&& (1 : Int32)))]))
  have J1 : ∀ (TJ1 : State) (lJ1 : List Loc), Stand p l e room_1 s m #[(.int p1), (.int p2), (.int p3), (.long p4)] below meth c TJ1 lJ1 0 0 → TJ1.heap = h0 → Fr n0 lJ1 → Goes p e below QQ (TJ1.setTop (mkF m 11 #[iv p1, iv p2, iv p3, .val (.long p4), .second, .unset, .unset, .unset, .unset, .unset, .unset] [(.int (if (p1 &&& (1 : Int32)) = (0 : Int32) then (0 : Int32) else (1 : Int32)))])) := by
    intro TJ1 lJ1 XJ1 eJ1 NJ1
    refine Goes.on (fun t k => XS.istore XJ1.here hx rfl (hb hby at_11) rfl (l' := #[iv p1, iv p2, iv p3, .val (.long p4), .second, iv (if (p1 &&& (1 : Int32)) = (0 : Int32) then (0 : Int32) else (1 : Int32)), .unset, .unset, .unset, .unset, .unset]) rfl k) ?_
    show Goes p e below QQ (TJ1.setTop (mkF m 13 #[iv p1, iv p2, iv p3, .val (.long p4), .second, iv (if (p1 &&& (1 : Int32)) = (0 : Int32) then (0 : Int32) else (1 : Int32)), .unset, .unset, .unset, .unset, .unset] []))
    refine Goes.on (fun t k => XS.iloadN XJ1.here hx rfl (hb hby at_13) rfl k) ?_
    show Goes p e below QQ (TJ1.setTop (mkF m 14 #[iv p1, iv p2, iv p3, .val (.long p4), .second, iv (if (p1 &&& (1 : Int32)) = (0 : Int32) then (0 : Int32) else (1 : Int32)), .unset, .unset, .unset, .unset, .unset] [(.int p2)]))
    refine Goes.on (fun t k => XS.iconst XJ1.here hx rfl (hb hby at_14) k) ?_
    show Goes p e below QQ (TJ1.setTop (mkF m 15 #[iv p1, iv p2, iv p3, .val (.long p4), .second, iv (if (p1 &&& (1 : Int32)) = (0 : Int32) then (0 : Int32) else (1 : Int32)), .unset, .unset, .unset, .unset, .unset] [(.int 1), (.int p2)]))
    refine Goes.on (fun t k => XS.iand XJ1.here hx rfl (hb hby at_15) rfl k) ?_
    show Goes p e below QQ (TJ1.setTop (mkF m 16 #[iv p1, iv p2, iv p3, .val (.long p4), .second, iv (if (p1 &&& (1 : Int32)) = (0 : Int32) then (0 : Int32) else (1 : Int32)), .unset, .unset, .unset, .unset, .unset] [(.int (p2 &&& (1 : Int32)))]))
    have J2 : ∀ (TJ2 : State) (lJ2 : List Loc), Stand p l e room_1 s m #[(.int p1), (.int p2), (.int p3), (.long p4)] below meth c TJ2 lJ2 0 0 → TJ2.heap = h0 → Fr n0 lJ2 → Goes p e below QQ (TJ2.setTop (mkF m 24 #[iv p1, iv p2, iv p3, .val (.long p4), .second, iv (if (p1 &&& (1 : Int32)) = (0 : Int32) then (0 : Int32) else (1 : Int32)), .unset, .unset, .unset, .unset, .unset] [(.int (if (p2 &&& (1 : Int32)) = (0 : Int32) then (0 : Int32) else (1 : Int32)))])) := by
      intro TJ2 lJ2 XJ2 eJ2 NJ2
      refine Goes.on (fun t k => XS.istore XJ2.here hx rfl (hb hby at_24) rfl (l' := #[iv p1, iv p2, iv p3, .val (.long p4), .second, iv (if (p1 &&& (1 : Int32)) = (0 : Int32) then (0 : Int32) else (1 : Int32)), iv (if (p2 &&& (1 : Int32)) = (0 : Int32) then (0 : Int32) else (1 : Int32)), .unset, .unset, .unset, .unset]) rfl k) ?_
      show Goes p e below QQ (TJ2.setTop (mkF m 26 #[iv p1, iv p2, iv p3, .val (.long p4), .second, iv (if (p1 &&& (1 : Int32)) = (0 : Int32) then (0 : Int32) else (1 : Int32)), iv (if (p2 &&& (1 : Int32)) = (0 : Int32) then (0 : Int32) else (1 : Int32)), .unset, .unset, .unset, .unset] []))
      refine Goes.on (fun t k => XS.iloadN XJ2.here hx rfl (hb hby at_26) rfl k) ?_
      show Goes p e below QQ (TJ2.setTop (mkF m 27 #[iv p1, iv p2, iv p3, .val (.long p4), .second, iv (if (p1 &&& (1 : Int32)) = (0 : Int32) then (0 : Int32) else (1 : Int32)), iv (if (p2 &&& (1 : Int32)) = (0 : Int32) then (0 : Int32) else (1 : Int32)), .unset, .unset, .unset, .unset] [(.int p3)]))
      refine Goes.on (fun t k => XS.iconst XJ2.here hx rfl (hb hby at_27) k) ?_
      show Goes p e below QQ (TJ2.setTop (mkF m 28 #[iv p1, iv p2, iv p3, .val (.long p4), .second, iv (if (p1 &&& (1 : Int32)) = (0 : Int32) then (0 : Int32) else (1 : Int32)), iv (if (p2 &&& (1 : Int32)) = (0 : Int32) then (0 : Int32) else (1 : Int32)), .unset, .unset, .unset, .unset] [(.int 3), (.int p3)]))
      refine Goes.on (fun t k => XS.iand XJ2.here hx rfl (hb hby at_28) rfl k) ?_
      show Goes p e below QQ (TJ2.setTop (mkF m 29 #[iv p1, iv p2, iv p3, .val (.long p4), .second, iv (if (p1 &&& (1 : Int32)) = (0 : Int32) then (0 : Int32) else (1 : Int32)), iv (if (p2 &&& (1 : Int32)) = (0 : Int32) then (0 : Int32) else (1 : Int32)), .unset, .unset, .unset, .unset] [(.int (p3 &&& (3 : Int32)))]))
      refine Goes.on (fun t k => XS.istore XJ2.here hx rfl (hb hby at_29) rfl (l' := #[iv p1, iv p2, iv p3, .val (.long p4), .second, iv (if (p1 &&& (1 : Int32)) = (0 : Int32) then (0 : Int32) else (1 : Int32)), iv (if (p2 &&& (1 : Int32)) = (0 : Int32) then (0 : Int32) else (1 : Int32)), iv (p3 &&& (3 : Int32)), .unset, .unset, .unset]) rfl k) ?_
      show Goes p e below QQ (TJ2.setTop (mkF m 31 #[iv p1, iv p2, iv p3, .val (.long p4), .second, iv (if (p1 &&& (1 : Int32)) = (0 : Int32) then (0 : Int32) else (1 : Int32)), iv (if (p2 &&& (1 : Int32)) = (0 : Int32) then (0 : Int32) else (1 : Int32)), iv (p3 &&& (3 : Int32)), .unset, .unset, .unset] []))
      obtain ⟨T3, h3, X3, e3, E3, A3, D3, -, st3⟩ := newO XJ2 hx hZ hown (hw _ (List.mem_of_getElem? (i := 0) rfl)) (hw _ (List.mem_of_getElem? (i := 1) rfl)) (hw _ (List.mem_of_getElem? (i := 2) rfl)) eJ2 (g := (mkF m 31 #[iv p1, iv p2, iv p3, .val (.long p4), .second, iv (if (p1 &&& (1 : Int32)) = (0 : Int32) then (0 : Int32) else (1 : Int32)), iv (if (p2 &&& (1 : Int32)) = (0 : Int32) then (0 : Int32) else (1 : Int32)), iv (p3 &&& (3 : Int32)), .unset, .unset, .unset] [])) rfl (hb hby at_31) (by decide) (by decide)
      obtain ⟨b3, g3⟩ : ∃ z, z = h0.size := ⟨_, rfl⟩
      rw [← g3] at A3 D3 st3
      have sz_b3 : h0.size ≤ b3 := Nat.le_trans K0.1 (Nat.le_of_eq g3.symm)
      have g_b3 : n0 ≤ b3 := Nat.le_trans Z0 sz_b3
      have K3 := K0.ext E3
      have F_4 : Fld Z h3 b3 "com/example/bindery/bindery/BooleanValue" "value" "Z" (.int 0) := D3 (Or.inr (hw _ (List.mem_of_getElem? (i := 15) rfl))) (ty := .boolean) (by decide)
      refine Goes.on (fun t k => st3 t k) ?_
      show Goes p e below QQ (T3.setTop (mkF m 34 #[iv p1, iv p2, iv p3, .val (.long p4), .second, iv (if (p1 &&& (1 : Int32)) = (0 : Int32) then (0 : Int32) else (1 : Int32)), iv (if (p2 &&& (1 : Int32)) = (0 : Int32) then (0 : Int32) else (1 : Int32)), iv (p3 &&& (3 : Int32)), .unset, .unset, .unset] [(.ref b3)]))
      refine Goes.on (fun t k => XS.dup X3.here hx rfl (hb hby at_34) rfl rfl k) ?_
      show Goes p e below QQ (T3.setTop (mkF m 35 #[iv p1, iv p2, iv p3, .val (.long p4), .second, iv (if (p1 &&& (1 : Int32)) = (0 : Int32) then (0 : Int32) else (1 : Int32)), iv (if (p2 &&& (1 : Int32)) = (0 : Int32) then (0 : Int32) else (1 : Int32)), iv (p3 &&& (3 : Int32)), .unset, .unset, .unset] [(.ref b3), (.ref b3)]))
      refine Goes.on (fun t k => XS.iload X3.here hx rfl (hb hby at_35) rfl k) ?_
      show Goes p e below QQ (T3.setTop (mkF m 37 #[iv p1, iv p2, iv p3, .val (.long p4), .second, iv (if (p1 &&& (1 : Int32)) = (0 : Int32) then (0 : Int32) else (1 : Int32)), iv (if (p2 &&& (1 : Int32)) = (0 : Int32) then (0 : Int32) else (1 : Int32)), iv (p3 &&& (3 : Int32)), .unset, .unset, .unset] [(.int (if (p1 &&& (1 : Int32)) = (0 : Int32) then (0 : Int32) else (1 : Int32))), (.ref b3), (.ref b3)]))
      obtain ⟨_, _, ⟨T5, L5, k5, n5⟩, -, X5, ⟨Lc5, hQ5, l5, y5, z5⟩, st5⟩ := X3.specialBack hx (y := (⟨"com/example/bindery/bindery/BooleanValue", "<init>", "(Z)V"⟩ : MethodName)) rfl hown (mvT hZ (hw _ (List.mem_of_getElem? (i := 3) rfl))) (mvT hZ (hw _ (List.mem_of_getElem? (i := 4) rfl))) (mvT hZ (hw _ (List.mem_of_getElem? (i := 5) rfl))) (by decide) (backOf (W := 1) (rm1 l Z a0 hw [] b3 (if (p1 &&& (1 : Int32)) = (0 : Int32) then (0 : Int32) else (1 : Int32)) h3 n0 (Nat.le_trans Z0 K3.1) A3 F_4 g_b3) hZ (hw _ (List.mem_of_getElem? (i := 5) rfl)) (hw _ (List.mem_of_getElem? (i := 2) rfl)) (by decide) (by decide)) (g := (mkF m 37 #[iv p1, iv p2, iv p3, .val (.long p4), .second, iv (if (p1 &&& (1 : Int32)) = (0 : Int32) then (0 : Int32) else (1 : Int32)), iv (if (p2 &&& (1 : Int32)) = (0 : Int32) then (0 : Int32) else (1 : Int32)), iv (p3 &&& (3 : Int32)), .unset, .unset, .unset] [(.int (if (p1 &&& (1 : Int32)) = (0 : Int32) then (0 : Int32) else (1 : Int32))), (.ref b3), (.ref b3)])) rfl (by rw [hml]; rfl) (Steps.refl _) (a := b3) (argsL := [(.int (if (p1 &&& (1 : Int32)) = (0 : Int32) then (0 : Int32) else (1 : Int32)))]) (rest := [(.ref b3)]) (lenOf pd_1 rfl) rfl (by show 2 * 0 + _ ≤ _; exact Nat.le_of_eq rfl) (hb hby at_37) (fun _ _ => ⟨rfl, e3, (by decide : 1 + 0 ≤ _), (by decide : 1 + 0 ≤ _)⟩)
      dsimp only [Pt.U, Pt.locs, Pt.cells, Pt.slots] at X5 l5 y5 z5 st5 hQ5
      subst l5 y5 z5
      obtain ⟨rfl, M5, Kc37, Fv37⟩ := hQ5
      have N5 := Fr.app NJ2 M5
      refine Goes.on (fun t k => st5.trans k) ?_
      have A3_6 := A3.keep Kc37
      have K8 := K3.trans Kc37 (allS (Or.inr sz_b3) all0)
      show Goes p e below QQ (T5.setTop (mkF m 40 #[iv p1, iv p2, iv p3, .val (.long p4), .second, iv (if (p1 &&& (1 : Int32)) = (0 : Int32) then (0 : Int32) else (1 : Int32)), iv (if (p2 &&& (1 : Int32)) = (0 : Int32) then (0 : Int32) else (1 : Int32)), iv (p3 &&& (3 : Int32)), .unset, .unset, .unset] [(.ref b3)]))
      refine Goes.on (fun t k => XS.astore X5.here hx rfl (hb hby at_40) rfl rfl (l' := #[iv p1, iv p2, iv p3, .val (.long p4), .second, iv (if (p1 &&& (1 : Int32)) = (0 : Int32) then (0 : Int32) else (1 : Int32)), iv (if (p2 &&& (1 : Int32)) = (0 : Int32) then (0 : Int32) else (1 : Int32)), iv (p3 &&& (3 : Int32)), rv b3, .unset, .unset]) rfl k) ?_
      show Goes p e below QQ (T5.setTop (mkF m 42 #[iv p1, iv p2, iv p3, .val (.long p4), .second, iv (if (p1 &&& (1 : Int32)) = (0 : Int32) then (0 : Int32) else (1 : Int32)), iv (if (p2 &&& (1 : Int32)) = (0 : Int32) then (0 : Int32) else (1 : Int32)), iv (p3 &&& (3 : Int32)), rv b3, .unset, .unset] []))
      refine Goes.on (fun t k => XS.iload X5.here hx rfl (hb hby at_42) rfl k) ?_
      show Goes p e below QQ (T5.setTop (mkF m 44 #[iv p1, iv p2, iv p3, .val (.long p4), .second, iv (if (p1 &&& (1 : Int32)) = (0 : Int32) then (0 : Int32) else (1 : Int32)), iv (if (p2 &&& (1 : Int32)) = (0 : Int32) then (0 : Int32) else (1 : Int32)), iv (p3 &&& (3 : Int32)), rv b3, .unset, .unset] [(.int (p3 &&& (3 : Int32)))]))
      refine Goes.on (fun t k => XS.iconst X5.here hx rfl (hb hby at_44) k) ?_
      show Goes p e below QQ (T5.setTop (mkF m 45 #[iv p1, iv p2, iv p3, .val (.long p4), .second, iv (if (p1 &&& (1 : Int32)) = (0 : Int32) then (0 : Int32) else (1 : Int32)), iv (if (p2 &&& (1 : Int32)) = (0 : Int32) then (0 : Int32) else (1 : Int32)), iv (p3 &&& (3 : Int32)), rv b3, .unset, .unset] [(.int 2), (.int (p3 &&& (3 : Int32)))]))
      by_cases hb9 : (p3 &&& (3 : Int32)) = (2 : Int32)
      · refine Goes.on (fun t k => XS.icmpNo X5.here hx rfl (hb hby at_45) rfl (teq hb9).2 k) ?_
        show Goes p e below QQ (T5.setTop (mkF m 48 #[iv p1, iv p2, iv p3, .val (.long p4), .second, iv (if (p1 &&& (1 : Int32)) = (0 : Int32) then (0 : Int32) else (1 : Int32)), iv (if (p2 &&& (1 : Int32)) = (0 : Int32) then (0 : Int32) else (1 : Int32)), iv (p3 &&& (3 : Int32)), rv b3, .unset, .unset] []))
        obtain ⟨T10, h10, X10, e10, E10, A10, D10, -, st10⟩ := newO X5 hx hZ hown (hw _ (List.mem_of_getElem? (i := 16) rfl)) (hw _ (List.mem_of_getElem? (i := 17) rfl)) (hw _ (List.mem_of_getElem? (i := 18) rfl)) rfl (g := (mkF m 48 #[iv p1, iv p2, iv p3, .val (.long p4), .second, iv (if (p1 &&& (1 : Int32)) = (0 : Int32) then (0 : Int32) else (1 : Int32)), iv (if (p2 &&& (1 : Int32)) = (0 : Int32) then (0 : Int32) else (1 : Int32)), iv (p3 &&& (3 : Int32)), rv b3, .unset, .unset] [])) rfl (hb hby at_48) (by decide) (by decide)
        obtain ⟨b10, g10⟩ : ∃ z, z = T5.heap.size := ⟨_, rfl⟩
        rw [← g10] at A10 D10 st10
        have sz_b10 : h0.size ≤ b10 := Nat.le_trans K8.1 (Nat.le_of_eq g10.symm)
        have g_b10 : n0 ≤ b10 := Nat.le_trans Z0 sz_b10
        have ne_b3_b10 : b3 ≠ b10 := Nat.ne_of_lt (Nat.lt_of_lt_of_le A3_6.lt (Nat.le_of_eq g10.symm))
        have A3_11 := A3_6.ext E10
        have Fv37_12 := Fv37.ext E10
        have K10 := K8.ext E10
        have F_13 : Fld Z h10 b10 "com/example/bindery/bindery/IntegerValue" "value" "J" (.long (0 : Int64)) := D10 (Or.inr (hw _ (List.mem_of_getElem? (i := 24) rfl))) (ty := .long) (by decide)
        refine Goes.on (fun t k => st10 t k) ?_
        show Goes p e below QQ (T10.setTop (mkF m 51 #[iv p1, iv p2, iv p3, .val (.long p4), .second, iv (if (p1 &&& (1 : Int32)) = (0 : Int32) then (0 : Int32) else (1 : Int32)), iv (if (p2 &&& (1 : Int32)) = (0 : Int32) then (0 : Int32) else (1 : Int32)), iv (p3 &&& (3 : Int32)), rv b3, .unset, .unset] [(.ref b10)]))
        refine Goes.on (fun t k => XS.dup X10.here hx rfl (hb hby at_51) rfl rfl k) ?_
        show Goes p e below QQ (T10.setTop (mkF m 52 #[iv p1, iv p2, iv p3, .val (.long p4), .second, iv (if (p1 &&& (1 : Int32)) = (0 : Int32) then (0 : Int32) else (1 : Int32)), iv (if (p2 &&& (1 : Int32)) = (0 : Int32) then (0 : Int32) else (1 : Int32)), iv (p3 &&& (3 : Int32)), rv b3, .unset, .unset] [(.ref b10), (.ref b10)]))
        refine Goes.on (fun t k => XS.lloadN X10.here hx rfl (hb hby at_52) rfl k) ?_
        show Goes p e below QQ (T10.setTop (mkF m 53 #[iv p1, iv p2, iv p3, .val (.long p4), .second, iv (if (p1 &&& (1 : Int32)) = (0 : Int32) then (0 : Int32) else (1 : Int32)), iv (if (p2 &&& (1 : Int32)) = (0 : Int32) then (0 : Int32) else (1 : Int32)), iv (p3 &&& (3 : Int32)), rv b3, .unset, .unset] [(.long p4), (.ref b10), (.ref b10)]))
        obtain ⟨_, _, ⟨T14, L14, k14, n14⟩, -, X14, ⟨Lc14, hQ14, l14, y14, z14⟩, st14⟩ := X10.specialBack hx (y := (⟨"com/example/bindery/bindery/IntegerValue", "<init>", "(J)V"⟩ : MethodName)) rfl hown (mvT hZ (hw _ (List.mem_of_getElem? (i := 19) rfl))) (mvT hZ (hw _ (List.mem_of_getElem? (i := 20) rfl))) (mvT hZ (hw _ (List.mem_of_getElem? (i := 21) rfl))) (by decide) (backOf (W := 1) (rm2 l Z a0 hw [] b10 p4 h10 n0 (Nat.le_trans Z0 K10.1) A10 F_13 g_b10) hZ (hw _ (List.mem_of_getElem? (i := 21) rfl)) (hw _ (List.mem_of_getElem? (i := 18) rfl)) (by decide) (by decide)) (g := (mkF m 53 #[iv p1, iv p2, iv p3, .val (.long p4), .second, iv (if (p1 &&& (1 : Int32)) = (0 : Int32) then (0 : Int32) else (1 : Int32)), iv (if (p2 &&& (1 : Int32)) = (0 : Int32) then (0 : Int32) else (1 : Int32)), iv (p3 &&& (3 : Int32)), rv b3, .unset, .unset] [(.long p4), (.ref b10), (.ref b10)])) rfl (by rw [hml]; rfl) (Steps.refl _) (a := b10) (argsL := [(.long p4)]) (rest := [(.ref b10)]) (lenOf pd_2 rfl) rfl (by show 2 * 0 + _ ≤ _; exact Nat.le_of_eq rfl) (hb hby at_53) (fun _ _ => ⟨rfl, e10, (by decide : 2 + 0 ≤ _), (by decide : 2 + 0 ≤ _)⟩)
        dsimp only [Pt.U, Pt.locs, Pt.cells, Pt.slots] at X14 l14 y14 z14 st14 hQ14
        subst l14 y14 z14
        obtain ⟨rfl, M14, Kc53⟩ := hQ14
        have N14 := Fr.app N5 M14
        refine Goes.on (fun t k => st14.trans k) ?_
        have A3_15 := A3_11.keep Kc53
        have Fv37_16 := Fv37_12.keep Kc53 (ninS ne_b3_b10 nin0)
        have A10_17 := A10.keep Kc53
        have K19 := K10.trans Kc53 (allS (Or.inr sz_b10) all0)
        show Goes p e below QQ (T14.setTop (mkF m 56 #[iv p1, iv p2, iv p3, .val (.long p4), .second, iv (if (p1 &&& (1 : Int32)) = (0 : Int32) then (0 : Int32) else (1 : Int32)), iv (if (p2 &&& (1 : Int32)) = (0 : Int32) then (0 : Int32) else (1 : Int32)), iv (p3 &&& (3 : Int32)), rv b3, .unset, .unset] [(.ref b10)]))
        refine Goes.on (fun t k => XS.astore X14.here hx rfl (hb hby at_56) rfl rfl (l' := #[iv p1, iv p2, iv p3, .val (.long p4), .second, iv (if (p1 &&& (1 : Int32)) = (0 : Int32) then (0 : Int32) else (1 : Int32)), iv (if (p2 &&& (1 : Int32)) = (0 : Int32) then (0 : Int32) else (1 : Int32)), iv (p3 &&& (3 : Int32)), rv b3, rv b10, .unset]) rfl k) ?_
        show Goes p e below QQ (T14.setTop (mkF m 58 #[iv p1, iv p2, iv p3, .val (.long p4), .second, iv (if (p1 &&& (1 : Int32)) = (0 : Int32) then (0 : Int32) else (1 : Int32)), iv (if (p2 &&& (1 : Int32)) = (0 : Int32) then (0 : Int32) else (1 : Int32)), iv (p3 &&& (3 : Int32)), rv b3, rv b10, .unset] []))
        refine Goes.on (fun t k => XS.goto X14.here hx rfl (pc0 := 58) (pc' := 84) rfl (hb hby at_58) (by decide) (by decide) k) ?_
        show Goes p e below QQ (T14.setTop (mkF m 84 #[iv p1, iv p2, iv p3, .val (.long p4), .second, iv (if (p1 &&& (1 : Int32)) = (0 : Int32) then (0 : Int32) else (1 : Int32)), iv (if (p2 &&& (1 : Int32)) = (0 : Int32) then (0 : Int32) else (1 : Int32)), iv (p3 &&& (3 : Int32)), rv b3, rv b10, .unset] []))
        refine Goes.on (fun t k => XS.iload X14.here hx rfl (hb hby at_84) rfl k) ?_
        show Goes p e below QQ (T14.setTop (mkF m 86 #[iv p1, iv p2, iv p3, .val (.long p4), .second, iv (if (p1 &&& (1 : Int32)) = (0 : Int32) then (0 : Int32) else (1 : Int32)), iv (if (p2 &&& (1 : Int32)) = (0 : Int32) then (0 : Int32) else (1 : Int32)), iv (p3 &&& (3 : Int32)), rv b3, rv b10, .unset] [(.int (p3 &&& (3 : Int32)))]))
        refine Goes.on (fun t k => XS.iconst X14.here hx rfl (hb hby at_86) k) ?_
        show Goes p e below QQ (T14.setTop (mkF m 87 #[iv p1, iv p2, iv p3, .val (.long p4), .second, iv (if (p1 &&& (1 : Int32)) = (0 : Int32) then (0 : Int32) else (1 : Int32)), iv (if (p2 &&& (1 : Int32)) = (0 : Int32) then (0 : Int32) else (1 : Int32)), iv (p3 &&& (3 : Int32)), rv b3, rv b10, .unset] [(.int 2), (.int (p3 &&& (3 : Int32)))]))
        have J20 : ∀ (TJ20 : State) (lJ20 : List Loc), Stand p l e room_1 s m #[(.int p1), (.int p2), (.int p3), (.long p4)] below meth c TJ20 lJ20 2 2 → TJ20.heap = T14.heap → Fr n0 lJ20 → Goes p e below QQ (TJ20.setTop (mkF m 102 #[iv p1, iv p2, iv p3, .val (.long p4), .second, iv (if (p1 &&& (1 : Int32)) = (0 : Int32) then (0 : Int32) else (1 : Int32)), iv (if (p2 &&& (1 : Int32)) = (0 : Int32) then (0 : Int32) else (1 : Int32)), iv (p3 &&& (3 : Int32)), rv b3, rv b10, .unset] [(.int (if (p3 &&& (3 : Int32)) < (2 : Int32) then (if (if (p1 &&& (1 : Int32)) = (0 : Int32) then (0 : Int32) else (1 : Int32)) = (if (p2 &&& (1 : Int32)) = (0 : Int32) then (0 : Int32) else (1 : Int32)) then (1 : Int32) else (0 : Int32)) else (0 : Int32)))])) := by
          intro TJ20 lJ20 XJ20 eJ20 NJ20
          refine Goes.on (fun t k => XS.istore XJ20.here hx rfl (hb hby at_102) rfl (l' := #[iv p1, iv p2, iv p3, .val (.long p4), .second, iv (if (p1 &&& (1 : Int32)) = (0 : Int32) then (0 : Int32) else (1 : Int32)), iv (if (p2 &&& (1 : Int32)) = (0 : Int32) then (0 : Int32) else (1 : Int32)), iv (p3 &&& (3 : Int32)), rv b3, rv b10, iv (if (p3 &&& (3 : Int32)) < (2 : Int32) then (if (if (p1 &&& (1 : Int32)) = (0 : Int32) then (0 : Int32) else (1 : Int32)) = (if (p2 &&& (1 : Int32)) = (0 : Int32) then (0 : Int32) else (1 : Int32)) then (1 : Int32) else (0 : Int32)) else (0 : Int32))]) rfl k) ?_
          show Goes p e below QQ (TJ20.setTop (mkF m 104 #[iv p1, iv p2, iv p3, .val (.long p4), .second, iv (if (p1 &&& (1 : Int32)) = (0 : Int32) then (0 : Int32) else (1 : Int32)), iv (if (p2 &&& (1 : Int32)) = (0 : Int32) then (0 : Int32) else (1 : Int32)), iv (p3 &&& (3 : Int32)), rv b3, rv b10, iv (if (p3 &&& (3 : Int32)) < (2 : Int32) then (if (if (p1 &&& (1 : Int32)) = (0 : Int32) then (0 : Int32) else (1 : Int32)) = (if (p2 &&& (1 : Int32)) = (0 : Int32) then (0 : Int32) else (1 : Int32)) then (1 : Int32) else (0 : Int32)) else (0 : Int32))] []))
          refine Goes.on (fun t k => XS.aload XJ20.here hx rfl (hb hby at_104) rfl rfl k) ?_
          show Goes p e below QQ (TJ20.setTop (mkF m 106 #[iv p1, iv p2, iv p3, .val (.long p4), .second, iv (if (p1 &&& (1 : Int32)) = (0 : Int32) then (0 : Int32) else (1 : Int32)), iv (if (p2 &&& (1 : Int32)) = (0 : Int32) then (0 : Int32) else (1 : Int32)), iv (p3 &&& (3 : Int32)), rv b3, rv b10, iv (if (p3 &&& (3 : Int32)) < (2 : Int32) then (if (if (p1 &&& (1 : Int32)) = (0 : Int32) then (0 : Int32) else (1 : Int32)) = (if (p2 &&& (1 : Int32)) = (0 : Int32) then (0 : Int32) else (1 : Int32)) then (1 : Int32) else (0 : Int32)) else (0 : Int32))] [(.ref b3)]))
          refine Goes.on (fun t k => XS.aload XJ20.here hx rfl (hb hby at_106) rfl rfl k) ?_
          show Goes p e below QQ (TJ20.setTop (mkF m 108 #[iv p1, iv p2, iv p3, .val (.long p4), .second, iv (if (p1 &&& (1 : Int32)) = (0 : Int32) then (0 : Int32) else (1 : Int32)), iv (if (p2 &&& (1 : Int32)) = (0 : Int32) then (0 : Int32) else (1 : Int32)), iv (p3 &&& (3 : Int32)), rv b3, rv b10, iv (if (p3 &&& (3 : Int32)) < (2 : Int32) then (if (if (p1 &&& (1 : Int32)) = (0 : Int32) then (0 : Int32) else (1 : Int32)) = (if (p2 &&& (1 : Int32)) = (0 : Int32) then (0 : Int32) else (1 : Int32)) then (1 : Int32) else (0 : Int32)) else (0 : Int32))] [(.ref b10), (.ref b3)]))
          obtain ⟨cq21, kq21, q21a, q21b, q21c⟩ := isOf hZ eJ20 A3_15
          obtain ⟨_, _, ⟨T21, L21, k21, n21⟩, -, X21, ⟨Lc21, hQ21, l21, y21, z21⟩, st21⟩ := XJ20.virtualBack hx (y := (⟨"com/example/bindery/bindery/BooleanValue", "equals", "(Ljava/lang/Object;)Z"⟩ : MethodName)) (z := (⟨"com/example/bindery/bindery/BooleanValue", "equals", "(Ljava/lang/Object;)Z"⟩ : MethodName)) hown (mvT hZ (hw _ (List.mem_of_getElem? (i := 25) rfl))) (mvT hZ (hw _ (List.mem_of_getElem? (i := 26) rfl))) (notFace_of_selects (args := #[]) (mvT hZ (hw _ (List.mem_of_getElem? (i := 28) rfl)))) (mvT hZ (hw _ (List.mem_of_getElem? (i := 28) rfl))) (mvT hZ (hw _ (List.mem_of_getElem? (i := 27) rfl))) (by decide) (backOf (W := 0) (rm3c l Z a0 hw [] b3 b10 T14.heap n0 (Nat.le_trans Z0 K19.1) A10_17) hZ (hw _ (List.mem_of_getElem? (i := 29) rfl)) (hw _ (List.mem_of_getElem? (i := 2) rfl)) (by decide) (by decide)) q21a q21c (g := (mkF m 108 #[iv p1, iv p2, iv p3, .val (.long p4), .second, iv (if (p1 &&& (1 : Int32)) = (0 : Int32) then (0 : Int32) else (1 : Int32)), iv (if (p2 &&& (1 : Int32)) = (0 : Int32) then (0 : Int32) else (1 : Int32)), iv (p3 &&& (3 : Int32)), rv b3, rv b10, iv (if (p3 &&& (3 : Int32)) < (2 : Int32) then (if (if (p1 &&& (1 : Int32)) = (0 : Int32) then (0 : Int32) else (1 : Int32)) = (if (p2 &&& (1 : Int32)) = (0 : Int32) then (0 : Int32) else (1 : Int32)) then (1 : Int32) else (0 : Int32)) else (0 : Int32))] [(.ref b10), (.ref b3)])) rfl (by rw [hml]; rfl) (Steps.refl _) (argsL := [(.ref b10)]) (rest := []) (lenOf pd_3 rfl) rfl (by show 2 * 0 + _ ≤ _; exact Nat.le_of_eq rfl) (hb hby at_108) (fun _ _ => ⟨rfl, eJ20, (by decide : 2 + 0 ≤ _), (by decide : 2 + 0 ≤ _)⟩)
          dsimp only [Pt.U, Pt.locs, Pt.cells, Pt.slots] at X21 l21 y21 z21 st21 hQ21
          subst l21 y21 z21
          obtain ⟨rfl, M21, e21⟩ := hQ21
          have N21 := Fr.app NJ20 M21
          refine Goes.on (fun t k => st21.trans k) ?_
          show Goes p e below QQ (T21.setTop (mkF m 111 #[iv p1, iv p2, iv p3, .val (.long p4), .second, iv (if (p1 &&& (1 : Int32)) = (0 : Int32) then (0 : Int32) else (1 : Int32)), iv (if (p2 &&& (1 : Int32)) = (0 : Int32) then (0 : Int32) else (1 : Int32)), iv (p3 &&& (3 : Int32)), rv b3, rv b10, iv (if (p3 &&& (3 : Int32)) < (2 : Int32) then (if (if (p1 &&& (1 : Int32)) = (0 : Int32) then (0 : Int32) else (1 : Int32)) = (if (p2 &&& (1 : Int32)) = (0 : Int32) then (0 : Int32) else (1 : Int32)) then (1 : Int32) else (0 : Int32)) else (0 : Int32))] [(.int 0)]))
          refine Goes.on (fun t k => XS.iload X21.here hx rfl (hb hby at_111) rfl k) ?_
          show Goes p e below QQ (T21.setTop (mkF m 113 #[iv p1, iv p2, iv p3, .val (.long p4), .second, iv (if (p1 &&& (1 : Int32)) = (0 : Int32) then (0 : Int32) else (1 : Int32)), iv (if (p2 &&& (1 : Int32)) = (0 : Int32) then (0 : Int32) else (1 : Int32)), iv (p3 &&& (3 : Int32)), rv b3, rv b10, iv (if (p3 &&& (3 : Int32)) < (2 : Int32) then (if (if (p1 &&& (1 : Int32)) = (0 : Int32) then (0 : Int32) else (1 : Int32)) = (if (p2 &&& (1 : Int32)) = (0 : Int32) then (0 : Int32) else (1 : Int32)) then (1 : Int32) else (0 : Int32)) else (0 : Int32))] [(.int (if (p3 &&& (3 : Int32)) < (2 : Int32) then (if (if (p1 &&& (1 : Int32)) = (0 : Int32) then (0 : Int32) else (1 : Int32)) = (if (p2 &&& (1 : Int32)) = (0 : Int32) then (0 : Int32) else (1 : Int32)) then (1 : Int32) else (0 : Int32)) else (0 : Int32))), (.int 0)]))
          by_cases hb22 : (0 : Int32) = (if (p3 &&& (3 : Int32)) < (2 : Int32) then (if (if (p1 &&& (1 : Int32)) = (0 : Int32) then (0 : Int32) else (1 : Int32)) = (if (p2 &&& (1 : Int32)) = (0 : Int32) then (0 : Int32) else (1 : Int32)) then (1 : Int32) else (0 : Int32)) else (0 : Int32))
          · refine Goes.on (fun t k => XS.icmpNo X21.here hx rfl (hb hby at_113) rfl (teq hb22).2 k) ?_
            show Goes p e below QQ (T21.setTop (mkF m 116 #[iv p1, iv p2, iv p3, .val (.long p4), .second, iv (if (p1 &&& (1 : Int32)) = (0 : Int32) then (0 : Int32) else (1 : Int32)), iv (if (p2 &&& (1 : Int32)) = (0 : Int32) then (0 : Int32) else (1 : Int32)), iv (p3 &&& (3 : Int32)), rv b3, rv b10, iv (if (p3 &&& (3 : Int32)) < (2 : Int32) then (if (if (p1 &&& (1 : Int32)) = (0 : Int32) then (0 : Int32) else (1 : Int32)) = (if (p2 &&& (1 : Int32)) = (0 : Int32) then (0 : Int32) else (1 : Int32)) then (1 : Int32) else (0 : Int32)) else (0 : Int32))] []))
            refine Goes.on (fun t k => XS.iconst X21.here hx rfl (hb hby at_116) k) ?_
            show Goes p e below QQ (T21.setTop (mkF m 117 #[iv p1, iv p2, iv p3, .val (.long p4), .second, iv (if (p1 &&& (1 : Int32)) = (0 : Int32) then (0 : Int32) else (1 : Int32)), iv (if (p2 &&& (1 : Int32)) = (0 : Int32) then (0 : Int32) else (1 : Int32)), iv (p3 &&& (3 : Int32)), rv b3, rv b10, iv (if (p3 &&& (3 : Int32)) < (2 : Int32) then (if (if (p1 &&& (1 : Int32)) = (0 : Int32) then (0 : Int32) else (1 : Int32)) = (if (p2 &&& (1 : Int32)) = (0 : Int32) then (0 : Int32) else (1 : Int32)) then (1 : Int32) else (0 : Int32)) else (0 : Int32))] [(.int 1)]))
            refine Goes.on (fun t k => XS.goto X21.here hx rfl (pc0 := 117) (pc' := 121) rfl (hb hby at_117) (by decide) (by decide) k) ?_
            show Goes p e below QQ (T21.setTop (mkF m 121 #[iv p1, iv p2, iv p3, .val (.long p4), .second, iv (if (p1 &&& (1 : Int32)) = (0 : Int32) then (0 : Int32) else (1 : Int32)), iv (if (p2 &&& (1 : Int32)) = (0 : Int32) then (0 : Int32) else (1 : Int32)), iv (p3 &&& (3 : Int32)), rv b3, rv b10, iv (if (p3 &&& (3 : Int32)) < (2 : Int32) then (if (if (p1 &&& (1 : Int32)) = (0 : Int32) then (0 : Int32) else (1 : Int32)) = (if (p2 &&& (1 : Int32)) = (0 : Int32) then (0 : Int32) else (1 : Int32)) then (1 : Int32) else (0 : Int32)) else (0 : Int32))] [(.int 1)]))
            exact Goes.rN X21 hx (t := .boolean) hret (by simp) hlk (hb hby at_121) hQQ ⟨rfl, N21⟩ (by decide) (by decide)
          · refine Goes.on (fun t k => XS.icmpYes X21.here hx rfl (pc0 := 113) (pc' := 120) rfl (hb hby at_113) rfl (feq hb22).2 (by decide) (by decide) k) ?_
            show Goes p e below QQ (T21.setTop (mkF m 120 #[iv p1, iv p2, iv p3, .val (.long p4), .second, iv (if (p1 &&& (1 : Int32)) = (0 : Int32) then (0 : Int32) else (1 : Int32)), iv (if (p2 &&& (1 : Int32)) = (0 : Int32) then (0 : Int32) else (1 : Int32)), iv (p3 &&& (3 : Int32)), rv b3, rv b10, iv (if (p3 &&& (3 : Int32)) < (2 : Int32) then (if (if (p1 &&& (1 : Int32)) = (0 : Int32) then (0 : Int32) else (1 : Int32)) = (if (p2 &&& (1 : Int32)) = (0 : Int32) then (0 : Int32) else (1 : Int32)) then (1 : Int32) else (0 : Int32)) else (0 : Int32))] []))
            refine Goes.on (fun t k => XS.iconst X21.here hx rfl (hb hby at_120) k) ?_
            show Goes p e below QQ (T21.setTop (mkF m 121 #[iv p1, iv p2, iv p3, .val (.long p4), .second, iv (if (p1 &&& (1 : Int32)) = (0 : Int32) then (0 : Int32) else (1 : Int32)), iv (if (p2 &&& (1 : Int32)) = (0 : Int32) then (0 : Int32) else (1 : Int32)), iv (p3 &&& (3 : Int32)), rv b3, rv b10, iv (if (p3 &&& (3 : Int32)) < (2 : Int32) then (if (if (p1 &&& (1 : Int32)) = (0 : Int32) then (0 : Int32) else (1 : Int32)) = (if (p2 &&& (1 : Int32)) = (0 : Int32) then (0 : Int32) else (1 : Int32)) then (1 : Int32) else (0 : Int32)) else (0 : Int32))] [(.int 0)]))
            exact absurd ((((if_pos hb9).trans ((if_neg hb22).trans rfl)) : lawF p1 p2 p3 = (0 : Int32)).symm.trans (lawT p1 p2 p3)) (by decide)
        show Goes p e below QQ (T14.setTop (mkF m 87 #[iv p1, iv p2, iv p3, .val (.long p4), .second, iv (if (p1 &&& (1 : Int32)) = (0 : Int32) then (0 : Int32) else (1 : Int32)), iv (if (p2 &&& (1 : Int32)) = (0 : Int32) then (0 : Int32) else (1 : Int32)), iv (p3 &&& (3 : Int32)), rv b3, rv b10, .unset] [(.int 2), (.int (p3 &&& (3 : Int32)))]))
        by_cases hb23 : (p3 &&& (3 : Int32)) < (2 : Int32)
        · refine Goes.on (fun t k => XS.icmpNo X14.here hx rfl (hb hby at_87) rfl (tlt hb23).2.1 k) ?_
          show Goes p e below QQ (T14.setTop (mkF m 90 #[iv p1, iv p2, iv p3, .val (.long p4), .second, iv (if (p1 &&& (1 : Int32)) = (0 : Int32) then (0 : Int32) else (1 : Int32)), iv (if (p2 &&& (1 : Int32)) = (0 : Int32) then (0 : Int32) else (1 : Int32)), iv (p3 &&& (3 : Int32)), rv b3, rv b10, .unset] []))
          refine Goes.on (fun t k => XS.iload X14.here hx rfl (hb hby at_90) rfl k) ?_
          show Goes p e below QQ (T14.setTop (mkF m 92 #[iv p1, iv p2, iv p3, .val (.long p4), .second, iv (if (p1 &&& (1 : Int32)) = (0 : Int32) then (0 : Int32) else (1 : Int32)), iv (if (p2 &&& (1 : Int32)) = (0 : Int32) then (0 : Int32) else (1 : Int32)), iv (p3 &&& (3 : Int32)), rv b3, rv b10, .unset] [(.int (if (p1 &&& (1 : Int32)) = (0 : Int32) then (0 : Int32) else (1 : Int32)))]))
          refine Goes.on (fun t k => XS.iload X14.here hx rfl (hb hby at_92) rfl k) ?_
          show Goes p e below QQ (T14.setTop (mkF m 94 #[iv p1, iv p2, iv p3, .val (.long p4), .second, iv (if (p1 &&& (1 : Int32)) = (0 : Int32) then (0 : Int32) else (1 : Int32)), iv (if (p2 &&& (1 : Int32)) = (0 : Int32) then (0 : Int32) else (1 : Int32)), iv (p3 &&& (3 : Int32)), rv b3, rv b10, .unset] [(.int (if (p2 &&& (1 : Int32)) = (0 : Int32) then (0 : Int32) else (1 : Int32))), (.int (if (p1 &&& (1 : Int32)) = (0 : Int32) then (0 : Int32) else (1 : Int32)))]))
          by_cases hb24 : (if (p1 &&& (1 : Int32)) = (0 : Int32) then (0 : Int32) else (1 : Int32)) = (if (p2 &&& (1 : Int32)) = (0 : Int32) then (0 : Int32) else (1 : Int32))
          · refine Goes.on (fun t k => XS.icmpNo X14.here hx rfl (hb hby at_94) rfl (teq hb24).2 k) ?_
            show Goes p e below QQ (T14.setTop (mkF m 97 #[iv p1, iv p2, iv p3, .val (.long p4), .second, iv (if (p1 &&& (1 : Int32)) = (0 : Int32) then (0 : Int32) else (1 : Int32)), iv (if (p2 &&& (1 : Int32)) = (0 : Int32) then (0 : Int32) else (1 : Int32)), iv (p3 &&& (3 : Int32)), rv b3, rv b10, .unset] []))
            refine Goes.on (fun t k => XS.iconst X14.here hx rfl (hb hby at_97) k) ?_
            show Goes p e below QQ (T14.setTop (mkF m 98 #[iv p1, iv p2, iv p3, .val (.long p4), .second, iv (if (p1 &&& (1 : Int32)) = (0 : Int32) then (0 : Int32) else (1 : Int32)), iv (if (p2 &&& (1 : Int32)) = (0 : Int32) then (0 : Int32) else (1 : Int32)), iv (p3 &&& (3 : Int32)), rv b3, rv b10, .unset] [(.int 1)]))
            refine Goes.on (fun t k => XS.goto X14.here hx rfl (pc0 := 98) (pc' := 102) rfl (hb hby at_98) (by decide) (by decide) k) ?_
            show Goes p e below QQ (T14.setTop (mkF m 102 #[iv p1, iv p2, iv p3, .val (.long p4), .second, iv (if (p1 &&& (1 : Int32)) = (0 : Int32) then (0 : Int32) else (1 : Int32)), iv (if (p2 &&& (1 : Int32)) = (0 : Int32) then (0 : Int32) else (1 : Int32)), iv (p3 &&& (3 : Int32)), rv b3, rv b10, .unset] [(.int 1)]))
            rw [(((if_pos hb23).trans ((if_pos hb24).trans rfl)) : (if (p3 &&& (3 : Int32)) < (2 : Int32) then (if (if (p1 &&& (1 : Int32)) = (0 : Int32) then (0 : Int32) else (1 : Int32)) = (if (p2 &&& (1 : Int32)) = (0 : Int32) then (0 : Int32) else (1 : Int32)) then (1 : Int32) else (0 : Int32)) else (0 : Int32)) = (1 : Int32))] at J20
            exact J20 _ _ X14 rfl N14
          · refine Goes.on (fun t k => XS.icmpYes X14.here hx rfl (pc0 := 94) (pc' := 101) rfl (hb hby at_94) rfl (feq hb24).2 (by decide) (by decide) k) ?_
            show Goes p e below QQ (T14.setTop (mkF m 101 #[iv p1, iv p2, iv p3, .val (.long p4), .second, iv (if (p1 &&& (1 : Int32)) = (0 : Int32) then (0 : Int32) else (1 : Int32)), iv (if (p2 &&& (1 : Int32)) = (0 : Int32) then (0 : Int32) else (1 : Int32)), iv (p3 &&& (3 : Int32)), rv b3, rv b10, .unset] []))
            refine Goes.on (fun t k => XS.iconst X14.here hx rfl (hb hby at_101) k) ?_
            show Goes p e below QQ (T14.setTop (mkF m 102 #[iv p1, iv p2, iv p3, .val (.long p4), .second, iv (if (p1 &&& (1 : Int32)) = (0 : Int32) then (0 : Int32) else (1 : Int32)), iv (if (p2 &&& (1 : Int32)) = (0 : Int32) then (0 : Int32) else (1 : Int32)), iv (p3 &&& (3 : Int32)), rv b3, rv b10, .unset] [(.int 0)]))
            rw [(((if_pos hb23).trans ((if_neg hb24).trans rfl)) : (if (p3 &&& (3 : Int32)) < (2 : Int32) then (if (if (p1 &&& (1 : Int32)) = (0 : Int32) then (0 : Int32) else (1 : Int32)) = (if (p2 &&& (1 : Int32)) = (0 : Int32) then (0 : Int32) else (1 : Int32)) then (1 : Int32) else (0 : Int32)) else (0 : Int32)) = (0 : Int32))] at J20
            exact J20 _ _ X14 rfl N14
        · refine Goes.on (fun t k => XS.icmpYes X14.here hx rfl (pc0 := 87) (pc' := 101) rfl (hb hby at_87) rfl (flt hb23).2.1 (by decide) (by decide) k) ?_
          show Goes p e below QQ (T14.setTop (mkF m 101 #[iv p1, iv p2, iv p3, .val (.long p4), .second, iv (if (p1 &&& (1 : Int32)) = (0 : Int32) then (0 : Int32) else (1 : Int32)), iv (if (p2 &&& (1 : Int32)) = (0 : Int32) then (0 : Int32) else (1 : Int32)), iv (p3 &&& (3 : Int32)), rv b3, rv b10, .unset] []))
          refine Goes.on (fun t k => XS.iconst X14.here hx rfl (hb hby at_101) k) ?_
          show Goes p e below QQ (T14.setTop (mkF m 102 #[iv p1, iv p2, iv p3, .val (.long p4), .second, iv (if (p1 &&& (1 : Int32)) = (0 : Int32) then (0 : Int32) else (1 : Int32)), iv (if (p2 &&& (1 : Int32)) = (0 : Int32) then (0 : Int32) else (1 : Int32)), iv (p3 &&& (3 : Int32)), rv b3, rv b10, .unset] [(.int 0)]))
          rw [(((if_neg hb23).trans rfl) : (if (p3 &&& (3 : Int32)) < (2 : Int32) then (if (if (p1 &&& (1 : Int32)) = (0 : Int32) then (0 : Int32) else (1 : Int32)) = (if (p2 &&& (1 : Int32)) = (0 : Int32) then (0 : Int32) else (1 : Int32)) then (1 : Int32) else (0 : Int32)) else (0 : Int32)) = (0 : Int32))] at J20
          exact J20 _ _ X14 rfl N14
      · refine Goes.on (fun t k => XS.icmpYes X5.here hx rfl (pc0 := 45) (pc' := 61) rfl (hb hby at_45) rfl (feq hb9).2 (by decide) (by decide) k) ?_
        show Goes p e below QQ (T5.setTop (mkF m 61 #[iv p1, iv p2, iv p3, .val (.long p4), .second, iv (if (p1 &&& (1 : Int32)) = (0 : Int32) then (0 : Int32) else (1 : Int32)), iv (if (p2 &&& (1 : Int32)) = (0 : Int32) then (0 : Int32) else (1 : Int32)), iv (p3 &&& (3 : Int32)), rv b3, .unset, .unset] []))
        refine Goes.on (fun t k => XS.iload X5.here hx rfl (hb hby at_61) rfl k) ?_
        show Goes p e below QQ (T5.setTop (mkF m 63 #[iv p1, iv p2, iv p3, .val (.long p4), .second, iv (if (p1 &&& (1 : Int32)) = (0 : Int32) then (0 : Int32) else (1 : Int32)), iv (if (p2 &&& (1 : Int32)) = (0 : Int32) then (0 : Int32) else (1 : Int32)), iv (p3 &&& (3 : Int32)), rv b3, .unset, .unset] [(.int (p3 &&& (3 : Int32)))]))
        refine Goes.on (fun t k => XS.iconst X5.here hx rfl (hb hby at_63) k) ?_
        show Goes p e below QQ (T5.setTop (mkF m 64 #[iv p1, iv p2, iv p3, .val (.long p4), .second, iv (if (p1 &&& (1 : Int32)) = (0 : Int32) then (0 : Int32) else (1 : Int32)), iv (if (p2 &&& (1 : Int32)) = (0 : Int32) then (0 : Int32) else (1 : Int32)), iv (p3 &&& (3 : Int32)), rv b3, .unset, .unset] [(.int 3), (.int (p3 &&& (3 : Int32)))]))
        by_cases hb25 : (p3 &&& (3 : Int32)) = (3 : Int32)
        · refine Goes.on (fun t k => XS.icmpNo X5.here hx rfl (hb hby at_64) rfl (teq hb25).2 k) ?_
          show Goes p e below QQ (T5.setTop (mkF m 67 #[iv p1, iv p2, iv p3, .val (.long p4), .second, iv (if (p1 &&& (1 : Int32)) = (0 : Int32) then (0 : Int32) else (1 : Int32)), iv (if (p2 &&& (1 : Int32)) = (0 : Int32) then (0 : Int32) else (1 : Int32)), iv (p3 &&& (3 : Int32)), rv b3, .unset, .unset] []))
          refine Goes.on (fun t k => XS.aconstNull X5.here hx rfl (hb hby at_67) k) ?_
          show Goes p e below QQ (T5.setTop (mkF m 68 #[iv p1, iv p2, iv p3, .val (.long p4), .second, iv (if (p1 &&& (1 : Int32)) = (0 : Int32) then (0 : Int32) else (1 : Int32)), iv (if (p2 &&& (1 : Int32)) = (0 : Int32) then (0 : Int32) else (1 : Int32)), iv (p3 &&& (3 : Int32)), rv b3, .unset, .unset] [.null]))
          refine Goes.on (fun t k => XS.astore X5.here hx rfl (hb hby at_68) rfl rfl (l' := #[iv p1, iv p2, iv p3, .val (.long p4), .second, iv (if (p1 &&& (1 : Int32)) = (0 : Int32) then (0 : Int32) else (1 : Int32)), iv (if (p2 &&& (1 : Int32)) = (0 : Int32) then (0 : Int32) else (1 : Int32)), iv (p3 &&& (3 : Int32)), rv b3, .val .null, .unset]) rfl k) ?_
          show Goes p e below QQ (T5.setTop (mkF m 70 #[iv p1, iv p2, iv p3, .val (.long p4), .second, iv (if (p1 &&& (1 : Int32)) = (0 : Int32) then (0 : Int32) else (1 : Int32)), iv (if (p2 &&& (1 : Int32)) = (0 : Int32) then (0 : Int32) else (1 : Int32)), iv (p3 &&& (3 : Int32)), rv b3, .val .null, .unset] []))
          refine Goes.on (fun t k => XS.goto X5.here hx rfl (pc0 := 70) (pc' := 84) rfl (hb hby at_70) (by decide) (by decide) k) ?_
          show Goes p e below QQ (T5.setTop (mkF m 84 #[iv p1, iv p2, iv p3, .val (.long p4), .second, iv (if (p1 &&& (1 : Int32)) = (0 : Int32) then (0 : Int32) else (1 : Int32)), iv (if (p2 &&& (1 : Int32)) = (0 : Int32) then (0 : Int32) else (1 : Int32)), iv (p3 &&& (3 : Int32)), rv b3, .val .null, .unset] []))
          refine Goes.on (fun t k => XS.iload X5.here hx rfl (hb hby at_84) rfl k) ?_
          show Goes p e below QQ (T5.setTop (mkF m 86 #[iv p1, iv p2, iv p3, .val (.long p4), .second, iv (if (p1 &&& (1 : Int32)) = (0 : Int32) then (0 : Int32) else (1 : Int32)), iv (if (p2 &&& (1 : Int32)) = (0 : Int32) then (0 : Int32) else (1 : Int32)), iv (p3 &&& (3 : Int32)), rv b3, .val .null, .unset] [(.int (p3 &&& (3 : Int32)))]))
          refine Goes.on (fun t k => XS.iconst X5.here hx rfl (hb hby at_86) k) ?_
          show Goes p e below QQ (T5.setTop (mkF m 87 #[iv p1, iv p2, iv p3, .val (.long p4), .second, iv (if (p1 &&& (1 : Int32)) = (0 : Int32) then (0 : Int32) else (1 : Int32)), iv (if (p2 &&& (1 : Int32)) = (0 : Int32) then (0 : Int32) else (1 : Int32)), iv (p3 &&& (3 : Int32)), rv b3, .val .null, .unset] [(.int 2), (.int (p3 &&& (3 : Int32)))]))
          have J26 : ∀ (TJ26 : State) (lJ26 : List Loc), Stand p l e room_1 s m #[(.int p1), (.int p2), (.int p3), (.long p4)] below meth c TJ26 lJ26 1 1 → TJ26.heap = T5.heap → Fr n0 lJ26 → Goes p e below QQ (TJ26.setTop (mkF m 102 #[iv p1, iv p2, iv p3, .val (.long p4), .second, iv (if (p1 &&& (1 : Int32)) = (0 : Int32) then (0 : Int32) else (1 : Int32)), iv (if (p2 &&& (1 : Int32)) = (0 : Int32) then (0 : Int32) else (1 : Int32)), iv (p3 &&& (3 : Int32)), rv b3, .val .null, .unset] [(.int (if (p3 &&& (3 : Int32)) < (2 : Int32) then (if (if (p1 &&& (1 : Int32)) = (0 : Int32) then (0 : Int32) else (1 : Int32)) = (if (p2 &&& (1 : Int32)) = (0 : Int32) then (0 : Int32) else (1 : Int32)) then (1 : Int32) else (0 : Int32)) else (0 : Int32)))])) := by
            intro TJ26 lJ26 XJ26 eJ26 NJ26
            refine Goes.on (fun t k => XS.istore XJ26.here hx rfl (hb hby at_102) rfl (l' := #[iv p1, iv p2, iv p3, .val (.long p4), .second, iv (if (p1 &&& (1 : Int32)) = (0 : Int32) then (0 : Int32) else (1 : Int32)), iv (if (p2 &&& (1 : Int32)) = (0 : Int32) then (0 : Int32) else (1 : Int32)), iv (p3 &&& (3 : Int32)), rv b3, .val .null, iv (if (p3 &&& (3 : Int32)) < (2 : Int32) then (if (if (p1 &&& (1 : Int32)) = (0 : Int32) then (0 : Int32) else (1 : Int32)) = (if (p2 &&& (1 : Int32)) = (0 : Int32) then (0 : Int32) else (1 : Int32)) then (1 : Int32) else (0 : Int32)) else (0 : Int32))]) rfl k) ?_
            show Goes p e below QQ (TJ26.setTop (mkF m 104 #[iv p1, iv p2, iv p3, .val (.long p4), .second, iv (if (p1 &&& (1 : Int32)) = (0 : Int32) then (0 : Int32) else (1 : Int32)), iv (if (p2 &&& (1 : Int32)) = (0 : Int32) then (0 : Int32) else (1 : Int32)), iv (p3 &&& (3 : Int32)), rv b3, .val .null, iv (if (p3 &&& (3 : Int32)) < (2 : Int32) then (if (if (p1 &&& (1 : Int32)) = (0 : Int32) then (0 : Int32) else (1 : Int32)) = (if (p2 &&& (1 : Int32)) = (0 : Int32) then (0 : Int32) else (1 : Int32)) then (1 : Int32) else (0 : Int32)) else (0 : Int32))] []))
            refine Goes.on (fun t k => XS.aload XJ26.here hx rfl (hb hby at_104) rfl rfl k) ?_
            show Goes p e below QQ (TJ26.setTop (mkF m 106 #[iv p1, iv p2, iv p3, .val (.long p4), .second, iv (if (p1 &&& (1 : Int32)) = (0 : Int32) then (0 : Int32) else (1 : Int32)), iv (if (p2 &&& (1 : Int32)) = (0 : Int32) then (0 : Int32) else (1 : Int32)), iv (p3 &&& (3 : Int32)), rv b3, .val .null, iv (if (p3 &&& (3 : Int32)) < (2 : Int32) then (if (if (p1 &&& (1 : Int32)) = (0 : Int32) then (0 : Int32) else (1 : Int32)) = (if (p2 &&& (1 : Int32)) = (0 : Int32) then (0 : Int32) else (1 : Int32)) then (1 : Int32) else (0 : Int32)) else (0 : Int32))] [(.ref b3)]))
            refine Goes.on (fun t k => XS.aload XJ26.here hx rfl (hb hby at_106) rfl rfl k) ?_
            show Goes p e below QQ (TJ26.setTop (mkF m 108 #[iv p1, iv p2, iv p3, .val (.long p4), .second, iv (if (p1 &&& (1 : Int32)) = (0 : Int32) then (0 : Int32) else (1 : Int32)), iv (if (p2 &&& (1 : Int32)) = (0 : Int32) then (0 : Int32) else (1 : Int32)), iv (p3 &&& (3 : Int32)), rv b3, .val .null, iv (if (p3 &&& (3 : Int32)) < (2 : Int32) then (if (if (p1 &&& (1 : Int32)) = (0 : Int32) then (0 : Int32) else (1 : Int32)) = (if (p2 &&& (1 : Int32)) = (0 : Int32) then (0 : Int32) else (1 : Int32)) then (1 : Int32) else (0 : Int32)) else (0 : Int32))] [.null, (.ref b3)]))
            obtain ⟨cq27, kq27, q27a, q27b, q27c⟩ := isOf hZ eJ26 A3_6
            obtain ⟨_, _, ⟨T27, L27, k27, n27⟩, -, X27, ⟨Lc27, hQ27, l27, y27, z27⟩, st27⟩ := XJ26.virtualBack hx (y := (⟨"com/example/bindery/bindery/BooleanValue", "equals", "(Ljava/lang/Object;)Z"⟩ : MethodName)) (z := (⟨"com/example/bindery/bindery/BooleanValue", "equals", "(Ljava/lang/Object;)Z"⟩ : MethodName)) hown (mvT hZ (hw _ (List.mem_of_getElem? (i := 25) rfl))) (mvT hZ (hw _ (List.mem_of_getElem? (i := 26) rfl))) (notFace_of_selects (args := #[]) (mvT hZ (hw _ (List.mem_of_getElem? (i := 28) rfl)))) (mvT hZ (hw _ (List.mem_of_getElem? (i := 28) rfl))) (mvT hZ (hw _ (List.mem_of_getElem? (i := 27) rfl))) (by decide) (backOf (W := 0) (rm3a l Z a0 hw [] b3 T5.heap n0 (Nat.le_trans Z0 K8.1)) hZ (hw _ (List.mem_of_getElem? (i := 29) rfl)) (hw _ (List.mem_of_getElem? (i := 2) rfl)) (by decide) (by decide)) q27a q27c (g := (mkF m 108 #[iv p1, iv p2, iv p3, .val (.long p4), .second, iv (if (p1 &&& (1 : Int32)) = (0 : Int32) then (0 : Int32) else (1 : Int32)), iv (if (p2 &&& (1 : Int32)) = (0 : Int32) then (0 : Int32) else (1 : Int32)), iv (p3 &&& (3 : Int32)), rv b3, .val .null, iv (if (p3 &&& (3 : Int32)) < (2 : Int32) then (if (if (p1 &&& (1 : Int32)) = (0 : Int32) then (0 : Int32) else (1 : Int32)) = (if (p2 &&& (1 : Int32)) = (0 : Int32) then (0 : Int32) else (1 : Int32)) then (1 : Int32) else (0 : Int32)) else (0 : Int32))] [.null, (.ref b3)])) rfl (by rw [hml]; rfl) (Steps.refl _) (argsL := [.null]) (rest := []) (lenOf pd_3 rfl) rfl (by show 2 * 0 + _ ≤ _; exact Nat.le_of_eq rfl) (hb hby at_108) (fun _ _ => ⟨rfl, eJ26, (by decide : 1 + 0 ≤ _), (by decide : 1 + 0 ≤ _)⟩)
            dsimp only [Pt.U, Pt.locs, Pt.cells, Pt.slots] at X27 l27 y27 z27 st27 hQ27
            subst l27 y27 z27
            obtain ⟨rfl, M27, e27⟩ := hQ27
            have N27 := Fr.app NJ26 M27
            refine Goes.on (fun t k => st27.trans k) ?_
            show Goes p e below QQ (T27.setTop (mkF m 111 #[iv p1, iv p2, iv p3, .val (.long p4), .second, iv (if (p1 &&& (1 : Int32)) = (0 : Int32) then (0 : Int32) else (1 : Int32)), iv (if (p2 &&& (1 : Int32)) = (0 : Int32) then (0 : Int32) else (1 : Int32)), iv (p3 &&& (3 : Int32)), rv b3, .val .null, iv (if (p3 &&& (3 : Int32)) < (2 : Int32) then (if (if (p1 &&& (1 : Int32)) = (0 : Int32) then (0 : Int32) else (1 : Int32)) = (if (p2 &&& (1 : Int32)) = (0 : Int32) then (0 : Int32) else (1 : Int32)) then (1 : Int32) else (0 : Int32)) else (0 : Int32))] [(.int 0)]))
            refine Goes.on (fun t k => XS.iload X27.here hx rfl (hb hby at_111) rfl k) ?_
            show Goes p e below QQ (T27.setTop (mkF m 113 #[iv p1, iv p2, iv p3, .val (.long p4), .second, iv (if (p1 &&& (1 : Int32)) = (0 : Int32) then (0 : Int32) else (1 : Int32)), iv (if (p2 &&& (1 : Int32)) = (0 : Int32) then (0 : Int32) else (1 : Int32)), iv (p3 &&& (3 : Int32)), rv b3, .val .null, iv (if (p3 &&& (3 : Int32)) < (2 : Int32) then (if (if (p1 &&& (1 : Int32)) = (0 : Int32) then (0 : Int32) else (1 : Int32)) = (if (p2 &&& (1 : Int32)) = (0 : Int32) then (0 : Int32) else (1 : Int32)) then (1 : Int32) else (0 : Int32)) else (0 : Int32))] [(.int (if (p3 &&& (3 : Int32)) < (2 : Int32) then (if (if (p1 &&& (1 : Int32)) = (0 : Int32) then (0 : Int32) else (1 : Int32)) = (if (p2 &&& (1 : Int32)) = (0 : Int32) then (0 : Int32) else (1 : Int32)) then (1 : Int32) else (0 : Int32)) else (0 : Int32))), (.int 0)]))
            by_cases hb28 : (0 : Int32) = (if (p3 &&& (3 : Int32)) < (2 : Int32) then (if (if (p1 &&& (1 : Int32)) = (0 : Int32) then (0 : Int32) else (1 : Int32)) = (if (p2 &&& (1 : Int32)) = (0 : Int32) then (0 : Int32) else (1 : Int32)) then (1 : Int32) else (0 : Int32)) else (0 : Int32))
            · refine Goes.on (fun t k => XS.icmpNo X27.here hx rfl (hb hby at_113) rfl (teq hb28).2 k) ?_
              show Goes p e below QQ (T27.setTop (mkF m 116 #[iv p1, iv p2, iv p3, .val (.long p4), .second, iv (if (p1 &&& (1 : Int32)) = (0 : Int32) then (0 : Int32) else (1 : Int32)), iv (if (p2 &&& (1 : Int32)) = (0 : Int32) then (0 : Int32) else (1 : Int32)), iv (p3 &&& (3 : Int32)), rv b3, .val .null, iv (if (p3 &&& (3 : Int32)) < (2 : Int32) then (if (if (p1 &&& (1 : Int32)) = (0 : Int32) then (0 : Int32) else (1 : Int32)) = (if (p2 &&& (1 : Int32)) = (0 : Int32) then (0 : Int32) else (1 : Int32)) then (1 : Int32) else (0 : Int32)) else (0 : Int32))] []))
              refine Goes.on (fun t k => XS.iconst X27.here hx rfl (hb hby at_116) k) ?_
              show Goes p e below QQ (T27.setTop (mkF m 117 #[iv p1, iv p2, iv p3, .val (.long p4), .second, iv (if (p1 &&& (1 : Int32)) = (0 : Int32) then (0 : Int32) else (1 : Int32)), iv (if (p2 &&& (1 : Int32)) = (0 : Int32) then (0 : Int32) else (1 : Int32)), iv (p3 &&& (3 : Int32)), rv b3, .val .null, iv (if (p3 &&& (3 : Int32)) < (2 : Int32) then (if (if (p1 &&& (1 : Int32)) = (0 : Int32) then (0 : Int32) else (1 : Int32)) = (if (p2 &&& (1 : Int32)) = (0 : Int32) then (0 : Int32) else (1 : Int32)) then (1 : Int32) else (0 : Int32)) else (0 : Int32))] [(.int 1)]))
              refine Goes.on (fun t k => XS.goto X27.here hx rfl (pc0 := 117) (pc' := 121) rfl (hb hby at_117) (by decide) (by decide) k) ?_
              show Goes p e below QQ (T27.setTop (mkF m 121 #[iv p1, iv p2, iv p3, .val (.long p4), .second, iv (if (p1 &&& (1 : Int32)) = (0 : Int32) then (0 : Int32) else (1 : Int32)), iv (if (p2 &&& (1 : Int32)) = (0 : Int32) then (0 : Int32) else (1 : Int32)), iv (p3 &&& (3 : Int32)), rv b3, .val .null, iv (if (p3 &&& (3 : Int32)) < (2 : Int32) then (if (if (p1 &&& (1 : Int32)) = (0 : Int32) then (0 : Int32) else (1 : Int32)) = (if (p2 &&& (1 : Int32)) = (0 : Int32) then (0 : Int32) else (1 : Int32)) then (1 : Int32) else (0 : Int32)) else (0 : Int32))] [(.int 1)]))
              exact Goes.rN X27 hx (t := .boolean) hret (by simp) hlk (hb hby at_121) hQQ ⟨rfl, N27⟩ (by decide) (by decide)
            · refine Goes.on (fun t k => XS.icmpYes X27.here hx rfl (pc0 := 113) (pc' := 120) rfl (hb hby at_113) rfl (feq hb28).2 (by decide) (by decide) k) ?_
              show Goes p e below QQ (T27.setTop (mkF m 120 #[iv p1, iv p2, iv p3, .val (.long p4), .second, iv (if (p1 &&& (1 : Int32)) = (0 : Int32) then (0 : Int32) else (1 : Int32)), iv (if (p2 &&& (1 : Int32)) = (0 : Int32) then (0 : Int32) else (1 : Int32)), iv (p3 &&& (3 : Int32)), rv b3, .val .null, iv (if (p3 &&& (3 : Int32)) < (2 : Int32) then (if (if (p1 &&& (1 : Int32)) = (0 : Int32) then (0 : Int32) else (1 : Int32)) = (if (p2 &&& (1 : Int32)) = (0 : Int32) then (0 : Int32) else (1 : Int32)) then (1 : Int32) else (0 : Int32)) else (0 : Int32))] []))
              refine Goes.on (fun t k => XS.iconst X27.here hx rfl (hb hby at_120) k) ?_
              show Goes p e below QQ (T27.setTop (mkF m 121 #[iv p1, iv p2, iv p3, .val (.long p4), .second, iv (if (p1 &&& (1 : Int32)) = (0 : Int32) then (0 : Int32) else (1 : Int32)), iv (if (p2 &&& (1 : Int32)) = (0 : Int32) then (0 : Int32) else (1 : Int32)), iv (p3 &&& (3 : Int32)), rv b3, .val .null, iv (if (p3 &&& (3 : Int32)) < (2 : Int32) then (if (if (p1 &&& (1 : Int32)) = (0 : Int32) then (0 : Int32) else (1 : Int32)) = (if (p2 &&& (1 : Int32)) = (0 : Int32) then (0 : Int32) else (1 : Int32)) then (1 : Int32) else (0 : Int32)) else (0 : Int32))] [(.int 0)]))
              exact absurd ((((if_neg hb9).trans ((if_pos hb25).trans ((if_neg hb28).trans rfl))) : lawF p1 p2 p3 = (0 : Int32)).symm.trans (lawT p1 p2 p3)) (by decide)
          show Goes p e below QQ (T5.setTop (mkF m 87 #[iv p1, iv p2, iv p3, .val (.long p4), .second, iv (if (p1 &&& (1 : Int32)) = (0 : Int32) then (0 : Int32) else (1 : Int32)), iv (if (p2 &&& (1 : Int32)) = (0 : Int32) then (0 : Int32) else (1 : Int32)), iv (p3 &&& (3 : Int32)), rv b3, .val .null, .unset] [(.int 2), (.int (p3 &&& (3 : Int32)))]))
          by_cases hb29 : (p3 &&& (3 : Int32)) < (2 : Int32)
          · refine Goes.on (fun t k => XS.icmpNo X5.here hx rfl (hb hby at_87) rfl (tlt hb29).2.1 k) ?_
            show Goes p e below QQ (T5.setTop (mkF m 90 #[iv p1, iv p2, iv p3, .val (.long p4), .second, iv (if (p1 &&& (1 : Int32)) = (0 : Int32) then (0 : Int32) else (1 : Int32)), iv (if (p2 &&& (1 : Int32)) = (0 : Int32) then (0 : Int32) else (1 : Int32)), iv (p3 &&& (3 : Int32)), rv b3, .val .null, .unset] []))
            refine Goes.on (fun t k => XS.iload X5.here hx rfl (hb hby at_90) rfl k) ?_
            show Goes p e below QQ (T5.setTop (mkF m 92 #[iv p1, iv p2, iv p3, .val (.long p4), .second, iv (if (p1 &&& (1 : Int32)) = (0 : Int32) then (0 : Int32) else (1 : Int32)), iv (if (p2 &&& (1 : Int32)) = (0 : Int32) then (0 : Int32) else (1 : Int32)), iv (p3 &&& (3 : Int32)), rv b3, .val .null, .unset] [(.int (if (p1 &&& (1 : Int32)) = (0 : Int32) then (0 : Int32) else (1 : Int32)))]))
            refine Goes.on (fun t k => XS.iload X5.here hx rfl (hb hby at_92) rfl k) ?_
            show Goes p e below QQ (T5.setTop (mkF m 94 #[iv p1, iv p2, iv p3, .val (.long p4), .second, iv (if (p1 &&& (1 : Int32)) = (0 : Int32) then (0 : Int32) else (1 : Int32)), iv (if (p2 &&& (1 : Int32)) = (0 : Int32) then (0 : Int32) else (1 : Int32)), iv (p3 &&& (3 : Int32)), rv b3, .val .null, .unset] [(.int (if (p2 &&& (1 : Int32)) = (0 : Int32) then (0 : Int32) else (1 : Int32))), (.int (if (p1 &&& (1 : Int32)) = (0 : Int32) then (0 : Int32) else (1 : Int32)))]))
            by_cases hb30 : (if (p1 &&& (1 : Int32)) = (0 : Int32) then (0 : Int32) else (1 : Int32)) = (if (p2 &&& (1 : Int32)) = (0 : Int32) then (0 : Int32) else (1 : Int32))
            · refine Goes.on (fun t k => XS.icmpNo X5.here hx rfl (hb hby at_94) rfl (teq hb30).2 k) ?_
              show Goes p e below QQ (T5.setTop (mkF m 97 #[iv p1, iv p2, iv p3, .val (.long p4), .second, iv (if (p1 &&& (1 : Int32)) = (0 : Int32) then (0 : Int32) else (1 : Int32)), iv (if (p2 &&& (1 : Int32)) = (0 : Int32) then (0 : Int32) else (1 : Int32)), iv (p3 &&& (3 : Int32)), rv b3, .val .null, .unset] []))
              refine Goes.on (fun t k => XS.iconst X5.here hx rfl (hb hby at_97) k) ?_
              show Goes p e below QQ (T5.setTop (mkF m 98 #[iv p1, iv p2, iv p3, .val (.long p4), .second, iv (if (p1 &&& (1 : Int32)) = (0 : Int32) then (0 : Int32) else (1 : Int32)), iv (if (p2 &&& (1 : Int32)) = (0 : Int32) then (0 : Int32) else (1 : Int32)), iv (p3 &&& (3 : Int32)), rv b3, .val .null, .unset] [(.int 1)]))
              refine Goes.on (fun t k => XS.goto X5.here hx rfl (pc0 := 98) (pc' := 102) rfl (hb hby at_98) (by decide) (by decide) k) ?_
              show Goes p e below QQ (T5.setTop (mkF m 102 #[iv p1, iv p2, iv p3, .val (.long p4), .second, iv (if (p1 &&& (1 : Int32)) = (0 : Int32) then (0 : Int32) else (1 : Int32)), iv (if (p2 &&& (1 : Int32)) = (0 : Int32) then (0 : Int32) else (1 : Int32)), iv (p3 &&& (3 : Int32)), rv b3, .val .null, .unset] [(.int 1)]))
              rw [(((if_pos hb29).trans ((if_pos hb30).trans rfl)) : (if (p3 &&& (3 : Int32)) < (2 : Int32) then (if (if (p1 &&& (1 : Int32)) = (0 : Int32) then (0 : Int32) else (1 : Int32)) = (if (p2 &&& (1 : Int32)) = (0 : Int32) then (0 : Int32) else (1 : Int32)) then (1 : Int32) else (0 : Int32)) else (0 : Int32)) = (1 : Int32))] at J26
              exact J26 _ _ X5 rfl N5
            · refine Goes.on (fun t k => XS.icmpYes X5.here hx rfl (pc0 := 94) (pc' := 101) rfl (hb hby at_94) rfl (feq hb30).2 (by decide) (by decide) k) ?_
              show Goes p e below QQ (T5.setTop (mkF m 101 #[iv p1, iv p2, iv p3, .val (.long p4), .second, iv (if (p1 &&& (1 : Int32)) = (0 : Int32) then (0 : Int32) else (1 : Int32)), iv (if (p2 &&& (1 : Int32)) = (0 : Int32) then (0 : Int32) else (1 : Int32)), iv (p3 &&& (3 : Int32)), rv b3, .val .null, .unset] []))
              refine Goes.on (fun t k => XS.iconst X5.here hx rfl (hb hby at_101) k) ?_
              show Goes p e below QQ (T5.setTop (mkF m 102 #[iv p1, iv p2, iv p3, .val (.long p4), .second, iv (if (p1 &&& (1 : Int32)) = (0 : Int32) then (0 : Int32) else (1 : Int32)), iv (if (p2 &&& (1 : Int32)) = (0 : Int32) then (0 : Int32) else (1 : Int32)), iv (p3 &&& (3 : Int32)), rv b3, .val .null, .unset] [(.int 0)]))
              rw [(((if_pos hb29).trans ((if_neg hb30).trans rfl)) : (if (p3 &&& (3 : Int32)) < (2 : Int32) then (if (if (p1 &&& (1 : Int32)) = (0 : Int32) then (0 : Int32) else (1 : Int32)) = (if (p2 &&& (1 : Int32)) = (0 : Int32) then (0 : Int32) else (1 : Int32)) then (1 : Int32) else (0 : Int32)) else (0 : Int32)) = (0 : Int32))] at J26
              exact J26 _ _ X5 rfl N5
          · refine Goes.on (fun t k => XS.icmpYes X5.here hx rfl (pc0 := 87) (pc' := 101) rfl (hb hby at_87) rfl (flt hb29).2.1 (by decide) (by decide) k) ?_
            show Goes p e below QQ (T5.setTop (mkF m 101 #[iv p1, iv p2, iv p3, .val (.long p4), .second, iv (if (p1 &&& (1 : Int32)) = (0 : Int32) then (0 : Int32) else (1 : Int32)), iv (if (p2 &&& (1 : Int32)) = (0 : Int32) then (0 : Int32) else (1 : Int32)), iv (p3 &&& (3 : Int32)), rv b3, .val .null, .unset] []))
            refine Goes.on (fun t k => XS.iconst X5.here hx rfl (hb hby at_101) k) ?_
            show Goes p e below QQ (T5.setTop (mkF m 102 #[iv p1, iv p2, iv p3, .val (.long p4), .second, iv (if (p1 &&& (1 : Int32)) = (0 : Int32) then (0 : Int32) else (1 : Int32)), iv (if (p2 &&& (1 : Int32)) = (0 : Int32) then (0 : Int32) else (1 : Int32)), iv (p3 &&& (3 : Int32)), rv b3, .val .null, .unset] [(.int 0)]))
            rw [(((if_neg hb29).trans rfl) : (if (p3 &&& (3 : Int32)) < (2 : Int32) then (if (if (p1 &&& (1 : Int32)) = (0 : Int32) then (0 : Int32) else (1 : Int32)) = (if (p2 &&& (1 : Int32)) = (0 : Int32) then (0 : Int32) else (1 : Int32)) then (1 : Int32) else (0 : Int32)) else (0 : Int32)) = (0 : Int32))] at J26
            exact J26 _ _ X5 rfl N5
        · refine Goes.on (fun t k => XS.icmpYes X5.here hx rfl (pc0 := 64) (pc' := 73) rfl (hb hby at_64) rfl (feq hb25).2 (by decide) (by decide) k) ?_
          show Goes p e below QQ (T5.setTop (mkF m 73 #[iv p1, iv p2, iv p3, .val (.long p4), .second, iv (if (p1 &&& (1 : Int32)) = (0 : Int32) then (0 : Int32) else (1 : Int32)), iv (if (p2 &&& (1 : Int32)) = (0 : Int32) then (0 : Int32) else (1 : Int32)), iv (p3 &&& (3 : Int32)), rv b3, .unset, .unset] []))
          obtain ⟨T31, h31, X31, e31, E31, A31, D31, -, st31⟩ := newO X5 hx hZ hown (hw _ (List.mem_of_getElem? (i := 0) rfl)) (hw _ (List.mem_of_getElem? (i := 1) rfl)) (hw _ (List.mem_of_getElem? (i := 2) rfl)) rfl (g := (mkF m 73 #[iv p1, iv p2, iv p3, .val (.long p4), .second, iv (if (p1 &&& (1 : Int32)) = (0 : Int32) then (0 : Int32) else (1 : Int32)), iv (if (p2 &&& (1 : Int32)) = (0 : Int32) then (0 : Int32) else (1 : Int32)), iv (p3 &&& (3 : Int32)), rv b3, .unset, .unset] [])) rfl (hb hby at_73) (by decide) (by decide)
          obtain ⟨b31, g31⟩ : ∃ z, z = T5.heap.size := ⟨_, rfl⟩
          rw [← g31] at A31 D31 st31
          have sz_b31 : h0.size ≤ b31 := Nat.le_trans K8.1 (Nat.le_of_eq g31.symm)
          have g_b31 : n0 ≤ b31 := Nat.le_trans Z0 sz_b31
          have ne_b3_b31 : b3 ≠ b31 := Nat.ne_of_lt (Nat.lt_of_lt_of_le A3_6.lt (Nat.le_of_eq g31.symm))
          have A3_32 := A3_6.ext E31
          have Fv37_33 := Fv37.ext E31
          have K31 := K8.ext E31
          have F_34 : Fld Z h31 b31 "com/example/bindery/bindery/BooleanValue" "value" "Z" (.int 0) := D31 (Or.inr (hw _ (List.mem_of_getElem? (i := 15) rfl))) (ty := .boolean) (by decide)
          refine Goes.on (fun t k => st31 t k) ?_
          show Goes p e below QQ (T31.setTop (mkF m 76 #[iv p1, iv p2, iv p3, .val (.long p4), .second, iv (if (p1 &&& (1 : Int32)) = (0 : Int32) then (0 : Int32) else (1 : Int32)), iv (if (p2 &&& (1 : Int32)) = (0 : Int32) then (0 : Int32) else (1 : Int32)), iv (p3 &&& (3 : Int32)), rv b3, .unset, .unset] [(.ref b31)]))
          refine Goes.on (fun t k => XS.dup X31.here hx rfl (hb hby at_76) rfl rfl k) ?_
          show Goes p e below QQ (T31.setTop (mkF m 77 #[iv p1, iv p2, iv p3, .val (.long p4), .second, iv (if (p1 &&& (1 : Int32)) = (0 : Int32) then (0 : Int32) else (1 : Int32)), iv (if (p2 &&& (1 : Int32)) = (0 : Int32) then (0 : Int32) else (1 : Int32)), iv (p3 &&& (3 : Int32)), rv b3, .unset, .unset] [(.ref b31), (.ref b31)]))
          refine Goes.on (fun t k => XS.iload X31.here hx rfl (hb hby at_77) rfl k) ?_
          show Goes p e below QQ (T31.setTop (mkF m 79 #[iv p1, iv p2, iv p3, .val (.long p4), .second, iv (if (p1 &&& (1 : Int32)) = (0 : Int32) then (0 : Int32) else (1 : Int32)), iv (if (p2 &&& (1 : Int32)) = (0 : Int32) then (0 : Int32) else (1 : Int32)), iv (p3 &&& (3 : Int32)), rv b3, .unset, .unset] [(.int (if (p2 &&& (1 : Int32)) = (0 : Int32) then (0 : Int32) else (1 : Int32))), (.ref b31), (.ref b31)]))
          obtain ⟨_, _, ⟨T35, L35, k35, n35⟩, -, X35, ⟨Lc35, hQ35, l35, y35, z35⟩, st35⟩ := X31.specialBack hx (y := (⟨"com/example/bindery/bindery/BooleanValue", "<init>", "(Z)V"⟩ : MethodName)) rfl hown (mvT hZ (hw _ (List.mem_of_getElem? (i := 3) rfl))) (mvT hZ (hw _ (List.mem_of_getElem? (i := 4) rfl))) (mvT hZ (hw _ (List.mem_of_getElem? (i := 5) rfl))) (by decide) (backOf (W := 1) (rm1 l Z a0 hw [] b31 (if (p2 &&& (1 : Int32)) = (0 : Int32) then (0 : Int32) else (1 : Int32)) h31 n0 (Nat.le_trans Z0 K31.1) A31 F_34 g_b31) hZ (hw _ (List.mem_of_getElem? (i := 5) rfl)) (hw _ (List.mem_of_getElem? (i := 2) rfl)) (by decide) (by decide)) (g := (mkF m 79 #[iv p1, iv p2, iv p3, .val (.long p4), .second, iv (if (p1 &&& (1 : Int32)) = (0 : Int32) then (0 : Int32) else (1 : Int32)), iv (if (p2 &&& (1 : Int32)) = (0 : Int32) then (0 : Int32) else (1 : Int32)), iv (p3 &&& (3 : Int32)), rv b3, .unset, .unset] [(.int (if (p2 &&& (1 : Int32)) = (0 : Int32) then (0 : Int32) else (1 : Int32))), (.ref b31), (.ref b31)])) rfl (by rw [hml]; rfl) (Steps.refl _) (a := b31) (argsL := [(.int (if (p2 &&& (1 : Int32)) = (0 : Int32) then (0 : Int32) else (1 : Int32)))]) (rest := [(.ref b31)]) (lenOf pd_1 rfl) rfl (by show 2 * 0 + _ ≤ _; exact Nat.le_of_eq rfl) (hb hby at_79) (fun _ _ => ⟨rfl, e31, (by decide : 2 + 0 ≤ _), (by decide : 2 + 0 ≤ _)⟩)
          dsimp only [Pt.U, Pt.locs, Pt.cells, Pt.slots] at X35 l35 y35 z35 st35 hQ35
          subst l35 y35 z35
          obtain ⟨rfl, M35, Kc79, Fv79⟩ := hQ35
          have N35 := Fr.app N5 M35
          refine Goes.on (fun t k => st35.trans k) ?_
          have A3_36 := A3_32.keep Kc79
          have Fv37_37 := Fv37_33.keep Kc79 (ninS ne_b3_b31 nin0)
          have A31_38 := A31.keep Kc79
          have K40 := K31.trans Kc79 (allS (Or.inr sz_b31) all0)
          show Goes p e below QQ (T35.setTop (mkF m 82 #[iv p1, iv p2, iv p3, .val (.long p4), .second, iv (if (p1 &&& (1 : Int32)) = (0 : Int32) then (0 : Int32) else (1 : Int32)), iv (if (p2 &&& (1 : Int32)) = (0 : Int32) then (0 : Int32) else (1 : Int32)), iv (p3 &&& (3 : Int32)), rv b3, .unset, .unset] [(.ref b31)]))
          refine Goes.on (fun t k => XS.astore X35.here hx rfl (hb hby at_82) rfl rfl (l' := #[iv p1, iv p2, iv p3, .val (.long p4), .second, iv (if (p1 &&& (1 : Int32)) = (0 : Int32) then (0 : Int32) else (1 : Int32)), iv (if (p2 &&& (1 : Int32)) = (0 : Int32) then (0 : Int32) else (1 : Int32)), iv (p3 &&& (3 : Int32)), rv b3, rv b31, .unset]) rfl k) ?_
          show Goes p e below QQ (T35.setTop (mkF m 84 #[iv p1, iv p2, iv p3, .val (.long p4), .second, iv (if (p1 &&& (1 : Int32)) = (0 : Int32) then (0 : Int32) else (1 : Int32)), iv (if (p2 &&& (1 : Int32)) = (0 : Int32) then (0 : Int32) else (1 : Int32)), iv (p3 &&& (3 : Int32)), rv b3, rv b31, .unset] []))
          refine Goes.on (fun t k => XS.iload X35.here hx rfl (hb hby at_84) rfl k) ?_
          show Goes p e below QQ (T35.setTop (mkF m 86 #[iv p1, iv p2, iv p3, .val (.long p4), .second, iv (if (p1 &&& (1 : Int32)) = (0 : Int32) then (0 : Int32) else (1 : Int32)), iv (if (p2 &&& (1 : Int32)) = (0 : Int32) then (0 : Int32) else (1 : Int32)), iv (p3 &&& (3 : Int32)), rv b3, rv b31, .unset] [(.int (p3 &&& (3 : Int32)))]))
          refine Goes.on (fun t k => XS.iconst X35.here hx rfl (hb hby at_86) k) ?_
          show Goes p e below QQ (T35.setTop (mkF m 87 #[iv p1, iv p2, iv p3, .val (.long p4), .second, iv (if (p1 &&& (1 : Int32)) = (0 : Int32) then (0 : Int32) else (1 : Int32)), iv (if (p2 &&& (1 : Int32)) = (0 : Int32) then (0 : Int32) else (1 : Int32)), iv (p3 &&& (3 : Int32)), rv b3, rv b31, .unset] [(.int 2), (.int (p3 &&& (3 : Int32)))]))
          have J41 : ∀ (TJ41 : State) (lJ41 : List Loc), Stand p l e room_1 s m #[(.int p1), (.int p2), (.int p3), (.long p4)] below meth c TJ41 lJ41 2 2 → TJ41.heap = T35.heap → Fr n0 lJ41 → Goes p e below QQ (TJ41.setTop (mkF m 102 #[iv p1, iv p2, iv p3, .val (.long p4), .second, iv (if (p1 &&& (1 : Int32)) = (0 : Int32) then (0 : Int32) else (1 : Int32)), iv (if (p2 &&& (1 : Int32)) = (0 : Int32) then (0 : Int32) else (1 : Int32)), iv (p3 &&& (3 : Int32)), rv b3, rv b31, .unset] [(.int (if (p3 &&& (3 : Int32)) < (2 : Int32) then (if (if (p1 &&& (1 : Int32)) = (0 : Int32) then (0 : Int32) else (1 : Int32)) = (if (p2 &&& (1 : Int32)) = (0 : Int32) then (0 : Int32) else (1 : Int32)) then (1 : Int32) else (0 : Int32)) else (0 : Int32)))])) := by
            intro TJ41 lJ41 XJ41 eJ41 NJ41
            refine Goes.on (fun t k => XS.istore XJ41.here hx rfl (hb hby at_102) rfl (l' := #[iv p1, iv p2, iv p3, .val (.long p4), .second, iv (if (p1 &&& (1 : Int32)) = (0 : Int32) then (0 : Int32) else (1 : Int32)), iv (if (p2 &&& (1 : Int32)) = (0 : Int32) then (0 : Int32) else (1 : Int32)), iv (p3 &&& (3 : Int32)), rv b3, rv b31, iv (if (p3 &&& (3 : Int32)) < (2 : Int32) then (if (if (p1 &&& (1 : Int32)) = (0 : Int32) then (0 : Int32) else (1 : Int32)) = (if (p2 &&& (1 : Int32)) = (0 : Int32) then (0 : Int32) else (1 : Int32)) then (1 : Int32) else (0 : Int32)) else (0 : Int32))]) rfl k) ?_
            show Goes p e below QQ (TJ41.setTop (mkF m 104 #[iv p1, iv p2, iv p3, .val (.long p4), .second, iv (if (p1 &&& (1 : Int32)) = (0 : Int32) then (0 : Int32) else (1 : Int32)), iv (if (p2 &&& (1 : Int32)) = (0 : Int32) then (0 : Int32) else (1 : Int32)), iv (p3 &&& (3 : Int32)), rv b3, rv b31, iv (if (p3 &&& (3 : Int32)) < (2 : Int32) then (if (if (p1 &&& (1 : Int32)) = (0 : Int32) then (0 : Int32) else (1 : Int32)) = (if (p2 &&& (1 : Int32)) = (0 : Int32) then (0 : Int32) else (1 : Int32)) then (1 : Int32) else (0 : Int32)) else (0 : Int32))] []))
            refine Goes.on (fun t k => XS.aload XJ41.here hx rfl (hb hby at_104) rfl rfl k) ?_
            show Goes p e below QQ (TJ41.setTop (mkF m 106 #[iv p1, iv p2, iv p3, .val (.long p4), .second, iv (if (p1 &&& (1 : Int32)) = (0 : Int32) then (0 : Int32) else (1 : Int32)), iv (if (p2 &&& (1 : Int32)) = (0 : Int32) then (0 : Int32) else (1 : Int32)), iv (p3 &&& (3 : Int32)), rv b3, rv b31, iv (if (p3 &&& (3 : Int32)) < (2 : Int32) then (if (if (p1 &&& (1 : Int32)) = (0 : Int32) then (0 : Int32) else (1 : Int32)) = (if (p2 &&& (1 : Int32)) = (0 : Int32) then (0 : Int32) else (1 : Int32)) then (1 : Int32) else (0 : Int32)) else (0 : Int32))] [(.ref b3)]))
            refine Goes.on (fun t k => XS.aload XJ41.here hx rfl (hb hby at_106) rfl rfl k) ?_
            show Goes p e below QQ (TJ41.setTop (mkF m 108 #[iv p1, iv p2, iv p3, .val (.long p4), .second, iv (if (p1 &&& (1 : Int32)) = (0 : Int32) then (0 : Int32) else (1 : Int32)), iv (if (p2 &&& (1 : Int32)) = (0 : Int32) then (0 : Int32) else (1 : Int32)), iv (p3 &&& (3 : Int32)), rv b3, rv b31, iv (if (p3 &&& (3 : Int32)) < (2 : Int32) then (if (if (p1 &&& (1 : Int32)) = (0 : Int32) then (0 : Int32) else (1 : Int32)) = (if (p2 &&& (1 : Int32)) = (0 : Int32) then (0 : Int32) else (1 : Int32)) then (1 : Int32) else (0 : Int32)) else (0 : Int32))] [(.ref b31), (.ref b3)]))
            obtain ⟨cq42, kq42, q42a, q42b, q42c⟩ := isOf hZ eJ41 A3_36
            obtain ⟨_, _, ⟨T42, L42, k42, n42⟩, -, X42, ⟨Lc42, hQ42, l42, y42, z42⟩, st42⟩ := XJ41.virtualBack hx (y := (⟨"com/example/bindery/bindery/BooleanValue", "equals", "(Ljava/lang/Object;)Z"⟩ : MethodName)) (z := (⟨"com/example/bindery/bindery/BooleanValue", "equals", "(Ljava/lang/Object;)Z"⟩ : MethodName)) hown (mvT hZ (hw _ (List.mem_of_getElem? (i := 25) rfl))) (mvT hZ (hw _ (List.mem_of_getElem? (i := 26) rfl))) (notFace_of_selects (args := #[]) (mvT hZ (hw _ (List.mem_of_getElem? (i := 28) rfl)))) (mvT hZ (hw _ (List.mem_of_getElem? (i := 28) rfl))) (mvT hZ (hw _ (List.mem_of_getElem? (i := 27) rfl))) (by decide) (backOf (W := 0) (rm3b l Z a0 hw [] b3 b31 ((if (p1 &&& (1 : Int32)) = (0 : Int32) then (0 : Int32) else (1 : Int32)) &&& 1) ((if (p2 &&& (1 : Int32)) = (0 : Int32) then (0 : Int32) else (1 : Int32)) &&& 1) T35.heap n0 (Nat.le_trans Z0 K40.1) A31_38 Fv37_37 Fv79) hZ (hw _ (List.mem_of_getElem? (i := 29) rfl)) (hw _ (List.mem_of_getElem? (i := 2) rfl)) (by decide) (by decide)) q42a q42c (g := (mkF m 108 #[iv p1, iv p2, iv p3, .val (.long p4), .second, iv (if (p1 &&& (1 : Int32)) = (0 : Int32) then (0 : Int32) else (1 : Int32)), iv (if (p2 &&& (1 : Int32)) = (0 : Int32) then (0 : Int32) else (1 : Int32)), iv (p3 &&& (3 : Int32)), rv b3, rv b31, iv (if (p3 &&& (3 : Int32)) < (2 : Int32) then (if (if (p1 &&& (1 : Int32)) = (0 : Int32) then (0 : Int32) else (1 : Int32)) = (if (p2 &&& (1 : Int32)) = (0 : Int32) then (0 : Int32) else (1 : Int32)) then (1 : Int32) else (0 : Int32)) else (0 : Int32))] [(.ref b31), (.ref b3)])) rfl (by rw [hml]; rfl) (Steps.refl _) (argsL := [(.ref b31)]) (rest := []) (lenOf pd_3 rfl) rfl (by show 2 * 0 + _ ≤ _; exact Nat.le_of_eq rfl) (hb hby at_108) (fun _ _ => ⟨rfl, eJ41, (by decide : 2 + 0 ≤ _), (by decide : 2 + 0 ≤ _)⟩)
            dsimp only [Pt.U, Pt.locs, Pt.cells, Pt.slots] at X42 l42 y42 z42 st42 hQ42
            subst l42 y42 z42
            obtain ⟨rfl, M42, e42⟩ := hQ42
            have N42 := Fr.app NJ41 M42
            refine Goes.on (fun t k => st42.trans k) ?_
            show Goes p e below QQ (T42.setTop (mkF m 111 #[iv p1, iv p2, iv p3, .val (.long p4), .second, iv (if (p1 &&& (1 : Int32)) = (0 : Int32) then (0 : Int32) else (1 : Int32)), iv (if (p2 &&& (1 : Int32)) = (0 : Int32) then (0 : Int32) else (1 : Int32)), iv (p3 &&& (3 : Int32)), rv b3, rv b31, iv (if (p3 &&& (3 : Int32)) < (2 : Int32) then (if (if (p1 &&& (1 : Int32)) = (0 : Int32) then (0 : Int32) else (1 : Int32)) = (if (p2 &&& (1 : Int32)) = (0 : Int32) then (0 : Int32) else (1 : Int32)) then (1 : Int32) else (0 : Int32)) else (0 : Int32))] [(.int (eqB ((if (p1 &&& (1 : Int32)) = (0 : Int32) then (0 : Int32) else (1 : Int32)) &&& 1) ((if (p2 &&& (1 : Int32)) = (0 : Int32) then (0 : Int32) else (1 : Int32)) &&& 1)))]))
            refine Goes.on (fun t k => XS.iload X42.here hx rfl (hb hby at_111) rfl k) ?_
            show Goes p e below QQ (T42.setTop (mkF m 113 #[iv p1, iv p2, iv p3, .val (.long p4), .second, iv (if (p1 &&& (1 : Int32)) = (0 : Int32) then (0 : Int32) else (1 : Int32)), iv (if (p2 &&& (1 : Int32)) = (0 : Int32) then (0 : Int32) else (1 : Int32)), iv (p3 &&& (3 : Int32)), rv b3, rv b31, iv (if (p3 &&& (3 : Int32)) < (2 : Int32) then (if (if (p1 &&& (1 : Int32)) = (0 : Int32) then (0 : Int32) else (1 : Int32)) = (if (p2 &&& (1 : Int32)) = (0 : Int32) then (0 : Int32) else (1 : Int32)) then (1 : Int32) else (0 : Int32)) else (0 : Int32))] [(.int (if (p3 &&& (3 : Int32)) < (2 : Int32) then (if (if (p1 &&& (1 : Int32)) = (0 : Int32) then (0 : Int32) else (1 : Int32)) = (if (p2 &&& (1 : Int32)) = (0 : Int32) then (0 : Int32) else (1 : Int32)) then (1 : Int32) else (0 : Int32)) else (0 : Int32))), (.int (eqB ((if (p1 &&& (1 : Int32)) = (0 : Int32) then (0 : Int32) else (1 : Int32)) &&& 1) ((if (p2 &&& (1 : Int32)) = (0 : Int32) then (0 : Int32) else (1 : Int32)) &&& 1)))]))
            by_cases hb43 : (eqB ((if (p1 &&& (1 : Int32)) = (0 : Int32) then (0 : Int32) else (1 : Int32)) &&& 1) ((if (p2 &&& (1 : Int32)) = (0 : Int32) then (0 : Int32) else (1 : Int32)) &&& 1)) = (if (p3 &&& (3 : Int32)) < (2 : Int32) then (if (if (p1 &&& (1 : Int32)) = (0 : Int32) then (0 : Int32) else (1 : Int32)) = (if (p2 &&& (1 : Int32)) = (0 : Int32) then (0 : Int32) else (1 : Int32)) then (1 : Int32) else (0 : Int32)) else (0 : Int32))
            · refine Goes.on (fun t k => XS.icmpNo X42.here hx rfl (hb hby at_113) rfl (teq hb43).2 k) ?_
              show Goes p e below QQ (T42.setTop (mkF m 116 #[iv p1, iv p2, iv p3, .val (.long p4), .second, iv (if (p1 &&& (1 : Int32)) = (0 : Int32) then (0 : Int32) else (1 : Int32)), iv (if (p2 &&& (1 : Int32)) = (0 : Int32) then (0 : Int32) else (1 : Int32)), iv (p3 &&& (3 : Int32)), rv b3, rv b31, iv (if (p3 &&& (3 : Int32)) < (2 : Int32) then (if (if (p1 &&& (1 : Int32)) = (0 : Int32) then (0 : Int32) else (1 : Int32)) = (if (p2 &&& (1 : Int32)) = (0 : Int32) then (0 : Int32) else (1 : Int32)) then (1 : Int32) else (0 : Int32)) else (0 : Int32))] []))
              refine Goes.on (fun t k => XS.iconst X42.here hx rfl (hb hby at_116) k) ?_
              show Goes p e below QQ (T42.setTop (mkF m 117 #[iv p1, iv p2, iv p3, .val (.long p4), .second, iv (if (p1 &&& (1 : Int32)) = (0 : Int32) then (0 : Int32) else (1 : Int32)), iv (if (p2 &&& (1 : Int32)) = (0 : Int32) then (0 : Int32) else (1 : Int32)), iv (p3 &&& (3 : Int32)), rv b3, rv b31, iv (if (p3 &&& (3 : Int32)) < (2 : Int32) then (if (if (p1 &&& (1 : Int32)) = (0 : Int32) then (0 : Int32) else (1 : Int32)) = (if (p2 &&& (1 : Int32)) = (0 : Int32) then (0 : Int32) else (1 : Int32)) then (1 : Int32) else (0 : Int32)) else (0 : Int32))] [(.int 1)]))
              refine Goes.on (fun t k => XS.goto X42.here hx rfl (pc0 := 117) (pc' := 121) rfl (hb hby at_117) (by decide) (by decide) k) ?_
              show Goes p e below QQ (T42.setTop (mkF m 121 #[iv p1, iv p2, iv p3, .val (.long p4), .second, iv (if (p1 &&& (1 : Int32)) = (0 : Int32) then (0 : Int32) else (1 : Int32)), iv (if (p2 &&& (1 : Int32)) = (0 : Int32) then (0 : Int32) else (1 : Int32)), iv (p3 &&& (3 : Int32)), rv b3, rv b31, iv (if (p3 &&& (3 : Int32)) < (2 : Int32) then (if (if (p1 &&& (1 : Int32)) = (0 : Int32) then (0 : Int32) else (1 : Int32)) = (if (p2 &&& (1 : Int32)) = (0 : Int32) then (0 : Int32) else (1 : Int32)) then (1 : Int32) else (0 : Int32)) else (0 : Int32))] [(.int 1)]))
              exact Goes.rN X42 hx (t := .boolean) hret (by simp) hlk (hb hby at_121) hQQ ⟨rfl, N42⟩ (by decide) (by decide)
            · refine Goes.on (fun t k => XS.icmpYes X42.here hx rfl (pc0 := 113) (pc' := 120) rfl (hb hby at_113) rfl (feq hb43).2 (by decide) (by decide) k) ?_
              show Goes p e below QQ (T42.setTop (mkF m 120 #[iv p1, iv p2, iv p3, .val (.long p4), .second, iv (if (p1 &&& (1 : Int32)) = (0 : Int32) then (0 : Int32) else (1 : Int32)), iv (if (p2 &&& (1 : Int32)) = (0 : Int32) then (0 : Int32) else (1 : Int32)), iv (p3 &&& (3 : Int32)), rv b3, rv b31, iv (if (p3 &&& (3 : Int32)) < (2 : Int32) then (if (if (p1 &&& (1 : Int32)) = (0 : Int32) then (0 : Int32) else (1 : Int32)) = (if (p2 &&& (1 : Int32)) = (0 : Int32) then (0 : Int32) else (1 : Int32)) then (1 : Int32) else (0 : Int32)) else (0 : Int32))] []))
              refine Goes.on (fun t k => XS.iconst X42.here hx rfl (hb hby at_120) k) ?_
              show Goes p e below QQ (T42.setTop (mkF m 121 #[iv p1, iv p2, iv p3, .val (.long p4), .second, iv (if (p1 &&& (1 : Int32)) = (0 : Int32) then (0 : Int32) else (1 : Int32)), iv (if (p2 &&& (1 : Int32)) = (0 : Int32) then (0 : Int32) else (1 : Int32)), iv (p3 &&& (3 : Int32)), rv b3, rv b31, iv (if (p3 &&& (3 : Int32)) < (2 : Int32) then (if (if (p1 &&& (1 : Int32)) = (0 : Int32) then (0 : Int32) else (1 : Int32)) = (if (p2 &&& (1 : Int32)) = (0 : Int32) then (0 : Int32) else (1 : Int32)) then (1 : Int32) else (0 : Int32)) else (0 : Int32))] [(.int 0)]))
              exact absurd ((((if_neg hb9).trans ((if_neg hb25).trans ((if_neg hb43).trans rfl))) : lawF p1 p2 p3 = (0 : Int32)).symm.trans (lawT p1 p2 p3)) (by decide)
          show Goes p e below QQ (T35.setTop (mkF m 87 #[iv p1, iv p2, iv p3, .val (.long p4), .second, iv (if (p1 &&& (1 : Int32)) = (0 : Int32) then (0 : Int32) else (1 : Int32)), iv (if (p2 &&& (1 : Int32)) = (0 : Int32) then (0 : Int32) else (1 : Int32)), iv (p3 &&& (3 : Int32)), rv b3, rv b31, .unset] [(.int 2), (.int (p3 &&& (3 : Int32)))]))
          by_cases hb44 : (p3 &&& (3 : Int32)) < (2 : Int32)
          · refine Goes.on (fun t k => XS.icmpNo X35.here hx rfl (hb hby at_87) rfl (tlt hb44).2.1 k) ?_
            show Goes p e below QQ (T35.setTop (mkF m 90 #[iv p1, iv p2, iv p3, .val (.long p4), .second, iv (if (p1 &&& (1 : Int32)) = (0 : Int32) then (0 : Int32) else (1 : Int32)), iv (if (p2 &&& (1 : Int32)) = (0 : Int32) then (0 : Int32) else (1 : Int32)), iv (p3 &&& (3 : Int32)), rv b3, rv b31, .unset] []))
            refine Goes.on (fun t k => XS.iload X35.here hx rfl (hb hby at_90) rfl k) ?_
            show Goes p e below QQ (T35.setTop (mkF m 92 #[iv p1, iv p2, iv p3, .val (.long p4), .second, iv (if (p1 &&& (1 : Int32)) = (0 : Int32) then (0 : Int32) else (1 : Int32)), iv (if (p2 &&& (1 : Int32)) = (0 : Int32) then (0 : Int32) else (1 : Int32)), iv (p3 &&& (3 : Int32)), rv b3, rv b31, .unset] [(.int (if (p1 &&& (1 : Int32)) = (0 : Int32) then (0 : Int32) else (1 : Int32)))]))
            refine Goes.on (fun t k => XS.iload X35.here hx rfl (hb hby at_92) rfl k) ?_
            show Goes p e below QQ (T35.setTop (mkF m 94 #[iv p1, iv p2, iv p3, .val (.long p4), .second, iv (if (p1 &&& (1 : Int32)) = (0 : Int32) then (0 : Int32) else (1 : Int32)), iv (if (p2 &&& (1 : Int32)) = (0 : Int32) then (0 : Int32) else (1 : Int32)), iv (p3 &&& (3 : Int32)), rv b3, rv b31, .unset] [(.int (if (p2 &&& (1 : Int32)) = (0 : Int32) then (0 : Int32) else (1 : Int32))), (.int (if (p1 &&& (1 : Int32)) = (0 : Int32) then (0 : Int32) else (1 : Int32)))]))
            by_cases hb45 : (if (p1 &&& (1 : Int32)) = (0 : Int32) then (0 : Int32) else (1 : Int32)) = (if (p2 &&& (1 : Int32)) = (0 : Int32) then (0 : Int32) else (1 : Int32))
            · refine Goes.on (fun t k => XS.icmpNo X35.here hx rfl (hb hby at_94) rfl (teq hb45).2 k) ?_
              show Goes p e below QQ (T35.setTop (mkF m 97 #[iv p1, iv p2, iv p3, .val (.long p4), .second, iv (if (p1 &&& (1 : Int32)) = (0 : Int32) then (0 : Int32) else (1 : Int32)), iv (if (p2 &&& (1 : Int32)) = (0 : Int32) then (0 : Int32) else (1 : Int32)), iv (p3 &&& (3 : Int32)), rv b3, rv b31, .unset] []))
              refine Goes.on (fun t k => XS.iconst X35.here hx rfl (hb hby at_97) k) ?_
              show Goes p e below QQ (T35.setTop (mkF m 98 #[iv p1, iv p2, iv p3, .val (.long p4), .second, iv (if (p1 &&& (1 : Int32)) = (0 : Int32) then (0 : Int32) else (1 : Int32)), iv (if (p2 &&& (1 : Int32)) = (0 : Int32) then (0 : Int32) else (1 : Int32)), iv (p3 &&& (3 : Int32)), rv b3, rv b31, .unset] [(.int 1)]))
              refine Goes.on (fun t k => XS.goto X35.here hx rfl (pc0 := 98) (pc' := 102) rfl (hb hby at_98) (by decide) (by decide) k) ?_
              show Goes p e below QQ (T35.setTop (mkF m 102 #[iv p1, iv p2, iv p3, .val (.long p4), .second, iv (if (p1 &&& (1 : Int32)) = (0 : Int32) then (0 : Int32) else (1 : Int32)), iv (if (p2 &&& (1 : Int32)) = (0 : Int32) then (0 : Int32) else (1 : Int32)), iv (p3 &&& (3 : Int32)), rv b3, rv b31, .unset] [(.int 1)]))
              rw [(((if_pos hb44).trans ((if_pos hb45).trans rfl)) : (if (p3 &&& (3 : Int32)) < (2 : Int32) then (if (if (p1 &&& (1 : Int32)) = (0 : Int32) then (0 : Int32) else (1 : Int32)) = (if (p2 &&& (1 : Int32)) = (0 : Int32) then (0 : Int32) else (1 : Int32)) then (1 : Int32) else (0 : Int32)) else (0 : Int32)) = (1 : Int32))] at J41
              exact J41 _ _ X35 rfl N35
            · refine Goes.on (fun t k => XS.icmpYes X35.here hx rfl (pc0 := 94) (pc' := 101) rfl (hb hby at_94) rfl (feq hb45).2 (by decide) (by decide) k) ?_
              show Goes p e below QQ (T35.setTop (mkF m 101 #[iv p1, iv p2, iv p3, .val (.long p4), .second, iv (if (p1 &&& (1 : Int32)) = (0 : Int32) then (0 : Int32) else (1 : Int32)), iv (if (p2 &&& (1 : Int32)) = (0 : Int32) then (0 : Int32) else (1 : Int32)), iv (p3 &&& (3 : Int32)), rv b3, rv b31, .unset] []))
              refine Goes.on (fun t k => XS.iconst X35.here hx rfl (hb hby at_101) k) ?_
              show Goes p e below QQ (T35.setTop (mkF m 102 #[iv p1, iv p2, iv p3, .val (.long p4), .second, iv (if (p1 &&& (1 : Int32)) = (0 : Int32) then (0 : Int32) else (1 : Int32)), iv (if (p2 &&& (1 : Int32)) = (0 : Int32) then (0 : Int32) else (1 : Int32)), iv (p3 &&& (3 : Int32)), rv b3, rv b31, .unset] [(.int 0)]))
              rw [(((if_pos hb44).trans ((if_neg hb45).trans rfl)) : (if (p3 &&& (3 : Int32)) < (2 : Int32) then (if (if (p1 &&& (1 : Int32)) = (0 : Int32) then (0 : Int32) else (1 : Int32)) = (if (p2 &&& (1 : Int32)) = (0 : Int32) then (0 : Int32) else (1 : Int32)) then (1 : Int32) else (0 : Int32)) else (0 : Int32)) = (0 : Int32))] at J41
              exact J41 _ _ X35 rfl N35
          · refine Goes.on (fun t k => XS.icmpYes X35.here hx rfl (pc0 := 87) (pc' := 101) rfl (hb hby at_87) rfl (flt hb44).2.1 (by decide) (by decide) k) ?_
            show Goes p e below QQ (T35.setTop (mkF m 101 #[iv p1, iv p2, iv p3, .val (.long p4), .second, iv (if (p1 &&& (1 : Int32)) = (0 : Int32) then (0 : Int32) else (1 : Int32)), iv (if (p2 &&& (1 : Int32)) = (0 : Int32) then (0 : Int32) else (1 : Int32)), iv (p3 &&& (3 : Int32)), rv b3, rv b31, .unset] []))
            refine Goes.on (fun t k => XS.iconst X35.here hx rfl (hb hby at_101) k) ?_
            show Goes p e below QQ (T35.setTop (mkF m 102 #[iv p1, iv p2, iv p3, .val (.long p4), .second, iv (if (p1 &&& (1 : Int32)) = (0 : Int32) then (0 : Int32) else (1 : Int32)), iv (if (p2 &&& (1 : Int32)) = (0 : Int32) then (0 : Int32) else (1 : Int32)), iv (p3 &&& (3 : Int32)), rv b3, rv b31, .unset] [(.int 0)]))
            rw [(((if_neg hb44).trans rfl) : (if (p3 &&& (3 : Int32)) < (2 : Int32) then (if (if (p1 &&& (1 : Int32)) = (0 : Int32) then (0 : Int32) else (1 : Int32)) = (if (p2 &&& (1 : Int32)) = (0 : Int32) then (0 : Int32) else (1 : Int32)) then (1 : Int32) else (0 : Int32)) else (0 : Int32)) = (0 : Int32))] at J41
            exact J41 _ _ X35 rfl N35
    show Goes p e below QQ (TJ1.setTop (mkF m 16 #[iv p1, iv p2, iv p3, .val (.long p4), .second, iv (if (p1 &&& (1 : Int32)) = (0 : Int32) then (0 : Int32) else (1 : Int32)), .unset, .unset, .unset, .unset, .unset] [(.int (p2 &&& (1 : Int32)))]))
    by_cases hb46 : (p2 &&& (1 : Int32)) = (0 : Int32)
    · refine Goes.on (fun t k => XS.ifYes XJ1.here hx rfl (pc0 := 16) (pc' := 23) rfl (hb hby at_16) rfl ((if0 _ _).trans (teq hb46).1) (by decide) (by decide) k) ?_
      show Goes p e below QQ (TJ1.setTop (mkF m 23 #[iv p1, iv p2, iv p3, .val (.long p4), .second, iv (if (p1 &&& (1 : Int32)) = (0 : Int32) then (0 : Int32) else (1 : Int32)), .unset, .unset, .unset, .unset, .unset] []))
      refine Goes.on (fun t k => XS.iconst XJ1.here hx rfl (hb hby at_23) k) ?_
      show Goes p e below QQ (TJ1.setTop (mkF m 24 #[iv p1, iv p2, iv p3, .val (.long p4), .second, iv (if (p1 &&& (1 : Int32)) = (0 : Int32) then (0 : Int32) else (1 : Int32)), .unset, .unset, .unset, .unset, .unset] [(.int 0)]))
      rw [(((if_pos hb46).trans rfl) : (if (p2 &&& (1 : Int32)) = (0 : Int32) then (0 : Int32) else (1 : Int32)) = (0 : Int32))] at J2
      exact J2 _ _ XJ1 eJ1 NJ1
    · refine Goes.on (fun t k => XS.ifNo XJ1.here hx rfl (hb hby at_16) rfl ((if0 _ _).trans (feq hb46).1) k) ?_
      show Goes p e below QQ (TJ1.setTop (mkF m 19 #[iv p1, iv p2, iv p3, .val (.long p4), .second, iv (if (p1 &&& (1 : Int32)) = (0 : Int32) then (0 : Int32) else (1 : Int32)), .unset, .unset, .unset, .unset, .unset] []))
      refine Goes.on (fun t k => XS.iconst XJ1.here hx rfl (hb hby at_19) k) ?_
      show Goes p e below QQ (TJ1.setTop (mkF m 20 #[iv p1, iv p2, iv p3, .val (.long p4), .second, iv (if (p1 &&& (1 : Int32)) = (0 : Int32) then (0 : Int32) else (1 : Int32)), .unset, .unset, .unset, .unset, .unset] [(.int 1)]))
      refine Goes.on (fun t k => XS.goto XJ1.here hx rfl (pc0 := 20) (pc' := 24) rfl (hb hby at_20) (by decide) (by decide) k) ?_
      show Goes p e below QQ (TJ1.setTop (mkF m 24 #[iv p1, iv p2, iv p3, .val (.long p4), .second, iv (if (p1 &&& (1 : Int32)) = (0 : Int32) then (0 : Int32) else (1 : Int32)), .unset, .unset, .unset, .unset, .unset] [(.int 1)]))
      rw [(((if_neg hb46).trans rfl) : (if (p2 &&& (1 : Int32)) = (0 : Int32) then (0 : Int32) else (1 : Int32)) = (1 : Int32))] at J2
      exact J2 _ _ XJ1 eJ1 NJ1
  show Goes p e below QQ (s₁.setTop (mkF m 3 #[iv p1, iv p2, iv p3, .val (.long p4), .second, .unset, .unset, .unset, .unset, .unset, .unset] [(.int (p1 &&& (1 : Int32)))]))
  by_cases hb47 : (p1 &&& (1 : Int32)) = (0 : Int32)
  · refine Goes.on (fun t k => XS.ifYes X0.here hx rfl (pc0 := 3) (pc' := 10) rfl (hb hby at_3) rfl ((if0 _ _).trans (teq hb47).1) (by decide) (by decide) k) ?_
    show Goes p e below QQ (s₁.setTop (mkF m 10 #[iv p1, iv p2, iv p3, .val (.long p4), .second, .unset, .unset, .unset, .unset, .unset, .unset] []))
    refine Goes.on (fun t k => XS.iconst X0.here hx rfl (hb hby at_10) k) ?_
    show Goes p e below QQ (s₁.setTop (mkF m 11 #[iv p1, iv p2, iv p3, .val (.long p4), .second, .unset, .unset, .unset, .unset, .unset, .unset] [(.int 0)]))
    rw [(((if_pos hb47).trans rfl) : (if (p1 &&& (1 : Int32)) = (0 : Int32) then (0 : Int32) else (1 : Int32)) = (0 : Int32))] at J1
    exact J1 _ _ X0 e0 N0
  · refine Goes.on (fun t k => XS.ifNo X0.here hx rfl (hb hby at_3) rfl ((if0 _ _).trans (feq hb47).1) k) ?_
    show Goes p e below QQ (s₁.setTop (mkF m 6 #[iv p1, iv p2, iv p3, .val (.long p4), .second, .unset, .unset, .unset, .unset, .unset, .unset] []))
    refine Goes.on (fun t k => XS.iconst X0.here hx rfl (hb hby at_6) k) ?_
    show Goes p e below QQ (s₁.setTop (mkF m 7 #[iv p1, iv p2, iv p3, .val (.long p4), .second, .unset, .unset, .unset, .unset, .unset, .unset] [(.int 1)]))
    refine Goes.on (fun t k => XS.goto X0.here hx rfl (pc0 := 7) (pc' := 11) rfl (hb hby at_7) (by decide) (by decide) k) ?_
    show Goes p e below QQ (s₁.setTop (mkF m 11 #[iv p1, iv p2, iv p3, .val (.long p4), .second, .unset, .unset, .unset, .unset, .unset, .unset] [(.int 1)]))
    rw [(((if_neg hb47).trans rfl) : (if (p1 &&& (1 : Int32)) = (0 : Int32) then (0 : Int32) else (1 : Int32)) = (1 : Int32))] at J1
    exact J1 _ _ X0 e0 N0
set_option maxRecDepth 65536 in
set_option maxHeartbeats 40000000 in
theorem comes_1 {Post : Tables → Env → Array Value → State → Outcome → State → Prop} (hpost : ∀ tb e args s v u, (limb_1_1.after args s (.returned v) u = true ∧ limb_1_2.after args s (.returned v) u = true ∧ True) → FrameEnd s (.returned v) u (Jvm.fieldLocs frame_1_writes args s ++ Jvm.arrayLocs frame_1_arrays args s ++ Jvm.staticLocs frame_1_statics s) 16 128 → Post tb e args s (.returned v) u) :
    ArmFor flags0 classFile x code maxLocals ret World_1 tables_1 room_1 Calls_1 rest_1 Pre_1 Post := by
  intro l hfl _ _ p e ha hc hk s m args below hf hA hF happ hP
  obtain ⟨hcalls, hrest, hpre⟩ := hP
  obtain ⟨-, -, -, hnamed, -, -, -, hat⟩ := (Spec.applies_iff hf).mp happ
  obtain ⟨hg, hn⟩ := and_e (Cond.before_iff.mp (show (Jvm.Cond.and given_1 narrow_1).before args s = true from hpre))
  obtain ⟨hg0, hg1⟩ := and_e hg
  obtain ⟨ga1, hg2⟩ := and_e hg1
  obtain ⟨ga2, hg3⟩ := and_e hg2
  obtain ⟨ga3, hg4⟩ := and_e hg3
  obtain ⟨w0, w1, w2, w3, rfl⟩ : ∃ w0 w1 w2 w3 : Value, args = #[w0, w1, w2, w3] := by
    have hs : args.size = 4 := by simpa [Cond.value, given_1] using hg0
    obtain ⟨L⟩ := args
    match L, hs with
    | [w0, w1, w2, w3], _ => exact ⟨w0, w1, w2, w3, rfl⟩
  have hw := fun d (hd : d ∈ tables_1) => atoms_spec (ws := Jvm.Cond.code x code maxLocals ret :: tables_1) hat d (List.mem_cons_of_mem _ hd)
  have hfit : Fit s := fun {y c} hc i hi => by
    obtain ⟨ha, rfl⟩ := Array.getElem?_eq_some_iff.mp hc
    have q := List.all_eq_true.mp ((Array.all_eq_true_iff_forall_mem.mp hF) _ (Array.getElem_mem ha)) i (List.mem_range.mpr hi)
    simpa [Array.getElem?_eq_getElem hi] using q
  obtain ⟨i0, ei0⟩ := is_v ga1
  obtain rfl : w0 = (.int i0) := Option.some.inj ei0
  obtain ⟨i1, ei1⟩ := is_v ga2
  obtain rfl : w1 = (.int i1) := Option.some.inj ei1
  obtain ⟨i2, ei2⟩ := is_v ga3
  obtain rfl : w2 = (.int i2) := Option.some.inj ei2
  obtain ⟨i3, ei3⟩ := isL_v hg4
  obtain rfl : w3 = (.long i3) := Option.some.inj ei3
  obtain ⟨n, o, h1, h2, h3, _, L, rfl, ⟨rfl, N⟩, hq⟩ := rm0 l s _ hw tables_1 i0 i1 i2 i3 s.heap s.heap.size (Nat.le_refl _)  p e ha hc hk s m _ below hf ((Spec.applies_iff_loose hf).mp happ).1 ⟨rfl, State.Warmed39.refl s, rfl⟩ trivial
  refine ⟨n, _, h1, h2, h3, hpost _ _ _ _ _ _ ⟨Cond.after_iff.mpr rfl, Cond.after_iff.mpr (eq_i res_at (Term.int_eval (1)) rfl), trivial⟩ ⟨hq.1, hq.2.1, (hq.2.2.sift fun y hy => Or.inr (N y hy)).mono (by decide) (by decide)⟩⟩
theorem main_1_1 : Claimed_1_1 := comes_1 fun _ _ _ _ _ _ h hF => ⟨h.1, hF⟩
theorem main_1_2 : Claimed_1_2 := comes_1 fun _ _ _ _ _ _ h hF => ⟨h.2.1, hF⟩
end Jvm.Pilot.@@N@@
namespace Jvm.Pilot.@@N@@
open Jvm Jvm.ClassFile Sem Op Lib Jvm.Free Jvm.Stand Jvm.Pilot.@@N@@.Jvm.D
/-! MADE BY PROGRAM (witnessworld.py) out of the Statement's table words and the real class files: 12 classes; the members and pool entries that the words name. The judged class is class 1, her method 1. -/
namespace start1
open Jvm.ClassFile
def u (s : String) : CpInfo := .utf8 (stringToUtf16 s)
/-- a pool by its gaps: so many unusable entries, then the entry; so many at the end -/
def gap : Nat → List CpInfo → List CpInfo
  | 0, r => r
  | n + 1, r => .unusable :: gap n r
def poolList (es : List (Nat × CpInfo)) (last : Nat) : List CpInfo := es.foldr (fun e r => gap e.1 (e.2 :: r)) (gap last [])
def pool (es : List (Nat × CpInfo)) (last : Nat) : Array CpInfo := ⟨poolList es last⟩
def fileOf (pool : Array CpInfo) (this : Nat) (attrs : Array Attribute := #[]) (ms : Array MethodInfo := #[]) (fl : Nat := 33) (sup : Nat := 0) (ifs : Array Nat := #[]) (fds : Array FieldInfo := #[]) : ClassFile where
  minorVersion := 0
  majorVersion := 65
  constantPool := pool
  accessFlags := fl
  thisClass := this
  superClass := sup
  interfaces := ifs
  fields := fds
  methods := ms
  attributes := attrs
def plain (name : String) (sup : Option ClassId) : Class where
  name := name
  kind := .ordinary
  loader := none
  accessFlags := 33
  super := sup
  interfaces := #[]
  cf := none
  fields := #[]
  methods := #[]
  instanceTypes := #[]
  staticTypes := #[]
  resolved := #[]
  callSites := []
  init := .initialized
  statics := none
  mirror := none

def pool0 : Array CpInfo := pool [(5, u "<init>"), (0, u "()V"), (1, .class_ 10), (1, u "java/lang/Object")] 113

def k0c0 : Code := { maxStack := 0, maxLocals := 1, code := object_method_1_code, exceptionTable := #[], attributes := #[] }
def k0m0 : Method := { name := "<init>", desc := "()V", sig := { parameters := [], returnType := none }, accessFlags := 1, code := some k0c0 }
/-- java/lang/Object -/
def k0 : Class := { plain "java/lang/Object" none with
  accessFlags := 33
  interfaces := #[]
  cf := some (fileOf pool0 8 #[] #[{ accessFlags := 1, nameIndex := 5, descriptorIndex := 6, attributes := #[] }] 33 0 #[] #[])
  fields := #[]
  methods := #[k0m0]
  instanceTypes := #[]
  staticTypes := #[]
  resolved := Array.replicate 124 none
  statics := none }

def pool1 : Array CpInfo := pool [(2, .class_ 4), (1, u "java/lang/Object"), (0, u "<init>"), (0, u "()V"), (0, .class_ 8), (0, u "com/example/bindery/bindery/BooleanValue"), (0, .methodref 7 10), (0, .nameAndType 5 11), (0, u "(Z)V"), (0, .class_ 13), (0, u "com/example/bindery/bindery/IntegerValue"), (0, .methodref 12 15), (0, .nameAndType 5 16), (0, u "(J)V"), (0, .methodref 7 18), (0, .nameAndType 19 20), (0, u "equals"), (0, u "(Ljava/lang/Object;)Z"), (0, .class_ 22), (0, u "com/example/bindery/bindery/BooleanValueEqualsPinLaw"), (2, u "law"), (0, u "(IIIJ)Z")] 3

def k1m0 : Method := { name := "<init>", desc := "()V", sig := { parameters := [], returnType := none }, accessFlags := 1, code := none }
def k1c1 : Code := { maxStack := 4, maxLocals := 11, code := code, exceptionTable := #[], attributes := #[] }
def k1m1 : Method := { name := "law", desc := "(IIIJ)Z", sig := { parameters := [.int, .int, .int, .long], returnType := some .boolean }, accessFlags := 9, code := some k1c1 }
/-- com/example/bindery/bindery/BooleanValueEqualsPinLaw -/
def k1 : Class := { plain "com/example/bindery/bindery/BooleanValueEqualsPinLaw" (some 0) with
  accessFlags := 49
  interfaces := #[]
  cf := some (fileOf pool1 21 #[] #[{ accessFlags := 1, nameIndex := 5, descriptorIndex := 6, attributes := #[] }, { accessFlags := 9, nameIndex := 25, descriptorIndex := 26, attributes := #[] }] 49 2 #[] #[])
  fields := #[]
  methods := #[k1m0, k1m1]
  instanceTypes := #[]
  staticTypes := #[]
  resolved := Array.replicate 30 none
  statics := none }

def pool2 : Array CpInfo := pool [(1, .methodref 2 3), (0, .class_ 4), (0, .nameAndType 5 6), (0, u "java/lang/Object"), (0, u "<init>"), (0, u "()V"), (0, .class_ 8), (0, u "java/lang/Record")] 13

def k2c0 : Code := { maxStack := 1, maxLocals := 1, code := jdk_30_method_1_code, exceptionTable := #[], attributes := #[] }
def k2m0 : Method := { name := "<init>", desc := "()V", sig := { parameters := [], returnType := none }, accessFlags := 4, code := some k2c0 }
/-- java/lang/Record -/
def k2 : Class := { plain "java/lang/Record" (some 0) with
  accessFlags := 1057
  interfaces := #[]
  cf := some (fileOf pool2 7 #[] #[{ accessFlags := 4, nameIndex := 5, descriptorIndex := 6, attributes := #[] }] 1057 2 #[] #[])
  fields := #[]
  methods := #[k2m0]
  instanceTypes := #[]
  staticTypes := #[]
  resolved := Array.replicate 22 none
  statics := none }

def pool3 : Array CpInfo := pool [(18, u "NULL"), (0, u "Lcom/example/bindery/bindery/NullValue;"), (1, .class_ 22), (0, u "com/example/bindery/bindery/Value"), (0, .class_ 24), (0, u "java/lang/Object")] 34

/-- com/example/bindery/bindery/Value -/
def k3 : Class := { plain "com/example/bindery/bindery/Value" (some 0) with
  accessFlags := 1537
  interfaces := #[]
  cf := some (fileOf pool3 21 #[] #[] 1537 23 #[] #[{ accessFlags := 25, nameIndex := 18, descriptorIndex := 19, attributes := #[] }])
  fields := #[{ name := "NULL", type := (.object "com/example/bindery/bindery/NullValue"), accessFlags := 25, slot := 0, constantValue := 0 }]
  methods := #[]
  instanceTypes := #[]
  staticTypes := #[(.object "com/example/bindery/bindery/NullValue")]
  resolved := Array.replicate 59 none
  statics := none }

def pool4 : Array CpInfo := pool [(1, .methodref 2 3), (0, .class_ 4), (0, .nameAndType 5 6), (0, u "java/lang/Record"), (0, u "<init>"), (0, u "()V"), (0, .fieldref 8 9), (0, .class_ 10), (0, .nameAndType 11 12), (0, u "com/example/bindery/bindery/BooleanValue"), (0, u "value"), (0, u "Z"), (2, u "TRUE"), (0, u "Lcom/example/bindery/bindery/BooleanValue;"), (2, u "FALSE"), (14, u "(Z)V"), (0, .class_ 36), (0, u "com/example/bindery/bindery/Value"), (8, u "equals"), (0, u "(Ljava/lang/Object;)Z")] 22

def k4c0 : Code := { maxStack := 2, maxLocals := 2, code := prog_14_method_1_code, exceptionTable := #[], attributes := #[] }
def k4m0 : Method := { name := "<init>", desc := "(Z)V", sig := { parameters := [.boolean], returnType := none }, accessFlags := 1, code := some k4c0 }
def k4c1 : Code := { maxStack := 2, maxLocals := 3, code := prog_14_method_4_code, exceptionTable := #[], attributes := #[] }
def k4m1 : Method := { name := "equals", desc := "(Ljava/lang/Object;)Z", sig := { parameters := [(.object "java/lang/Object")], returnType := some .boolean }, accessFlags := 1, code := some k4c1 }
/-- com/example/bindery/bindery/BooleanValue -/
def k4 : Class := { plain "com/example/bindery/bindery/BooleanValue" (some 2) with
  accessFlags := 49
  interfaces := #[3]
  cf := some (fileOf pool4 8 #[] #[{ accessFlags := 1, nameIndex := 5, descriptorIndex := 34, attributes := #[] }, { accessFlags := 1, nameIndex := 45, descriptorIndex := 46, attributes := #[] }] 49 2 #[35] #[{ accessFlags := 18, nameIndex := 11, descriptorIndex := 12, attributes := #[] }, { accessFlags := 26, nameIndex := 15, descriptorIndex := 16, attributes := #[] }, { accessFlags := 26, nameIndex := 19, descriptorIndex := 16, attributes := #[] }])
  fields := #[{ name := "value", type := .boolean, accessFlags := 18, slot := 0, constantValue := 0 }, { name := "TRUE", type := (.object "com/example/bindery/bindery/BooleanValue"), accessFlags := 26, slot := 0, constantValue := 0 }, { name := "FALSE", type := (.object "com/example/bindery/bindery/BooleanValue"), accessFlags := 26, slot := 1, constantValue := 0 }]
  methods := #[k4m0, k4m1]
  instanceTypes := #[.boolean]
  staticTypes := #[(.object "com/example/bindery/bindery/BooleanValue"), (.object "com/example/bindery/bindery/BooleanValue")]
  resolved := Array.replicate 69 none
  statics := none }

def pool5 : Array CpInfo := pool [(1, .methodref 2 3), (0, .class_ 4), (0, .nameAndType 5 6), (0, u "java/lang/Record"), (0, u "<init>"), (0, u "()V"), (0, .fieldref 8 9), (0, .class_ 10), (0, .nameAndType 11 12), (0, u "com/example/bindery/bindery/IntegerValue"), (0, u "value"), (0, u "J"), (2, u "SMALL"), (0, u "[Lcom/example/bindery/bindery/IntegerValue;"), (2, u "(J)V"), (12, .class_ 33), (0, u "com/example/bindery/bindery/Value")] 32

def k5c0 : Code := { maxStack := 3, maxLocals := 3, code := prog_130_method_1_code, exceptionTable := #[], attributes := #[] }
def k5m0 : Method := { name := "<init>", desc := "(J)V", sig := { parameters := [.long], returnType := none }, accessFlags := 1, code := some k5c0 }
/-- com/example/bindery/bindery/IntegerValue -/
def k5 : Class := { plain "com/example/bindery/bindery/IntegerValue" (some 2) with
  accessFlags := 49
  interfaces := #[3]
  cf := some (fileOf pool5 8 #[] #[{ accessFlags := 1, nameIndex := 5, descriptorIndex := 19, attributes := #[] }] 49 2 #[32] #[{ accessFlags := 18, nameIndex := 11, descriptorIndex := 12, attributes := #[] }, { accessFlags := 26, nameIndex := 15, descriptorIndex := 16, attributes := #[] }])
  fields := #[{ name := "value", type := .long, accessFlags := 18, slot := 0, constantValue := 0 }, { name := "SMALL", type := (.array (.object "com/example/bindery/bindery/IntegerValue")), accessFlags := 26, slot := 0, constantValue := 0 }]
  methods := #[k5m0]
  instanceTypes := #[.long]
  staticTypes := #[(.array (.object "com/example/bindery/bindery/IntegerValue"))]
  resolved := Array.replicate 66 none
  statics := none }

def pool6 : Array CpInfo := pool [(1, u "java/lang/Cloneable"), (0, .class_ 1), (0, u "java/lang/Object"), (0, .class_ 3)] 3

/-- java/lang/Cloneable -/
def k6 : Class := { plain "java/lang/Cloneable" (some 0) with
  accessFlags := 1537
  interfaces := #[]
  cf := some (fileOf pool6 2 #[] #[] 1537 4 #[] #[])
  fields := #[]
  methods := #[]
  instanceTypes := #[]
  staticTypes := #[]
  resolved := Array.replicate 8 none
  statics := none }

def pool7 : Array CpInfo := pool [(1, u "java/io/Serializable"), (0, .class_ 1), (0, u "java/lang/Object"), (0, .class_ 3)] 3

/-- java/io/Serializable -/
def k7 : Class := { plain "java/io/Serializable" (some 0) with
  accessFlags := 1537
  interfaces := #[]
  cf := some (fileOf pool7 2 #[] #[] 1537 4 #[] #[])
  fields := #[]
  methods := #[]
  instanceTypes := #[]
  staticTypes := #[]
  resolved := Array.replicate 8 none
  statics := none }

/-- the primitive byte -/
def k8 : Class := { plain "byte" none with kind := .primitive 'B', accessFlags := 0x411 }
/-- [B -/
def k9 : Class := { plain "[B" (some 0) with kind := .array 8 .byte, interfaces := #[6, 7], accessFlags := 1041 }

/-- the primitive int -/
def k10 : Class := { plain "int" none with kind := .primitive 'I', accessFlags := 0x411 }
/-- [I -/
def k11 : Class := { plain "[I" (some 0) with kind := .array 10 .int, interfaces := #[6, 7], accessFlags := 1041 }

def heap : Heap := #[]
def classes : Array Class := #[k0, k1, k2, k3, k4, k5, k6, k7, k8, k9, k10, k11]
def interned : List (Array UInt16 × Addr) := []
def slotsUsed : Nat := 0
def theMethod : MethodId := ⟨1, 1⟩
def args0 : Array Value := #[.int 5, .int 6, .int 7, .long 8]
def aboutOver (below : List Frame) : State where
  vm := { classes := classes, interned := interned.toArray }
  heap := heap
  slotsUsed := slotsUsed
  threads := #[{ frames := .invoking theMethod args0 :: below }]
def below0 : List Frame := [.native { method := ⟨0, 0⟩, args := #[] }]
def about1 : State := aboutOver below0
def p0 : Program := .bare "" "" ""
def e0 : Env := launch0.env 0 0 0
theorem w_frames : about1.frames = Frame.invoking theMethod args0 :: below0 := rfl
set_option maxRecDepth 65536 in
theorem w_args : argsFit about1.vm theMethod args0 = true := by decide +kernel
set_option maxRecDepth 65536 in
theorem w_heap : heapFits about1 = true := by decide +kernel
set_option maxRecDepth 65536 in
theorem w_runnable : about1.curStatus? = some .runnable := by decide +kernel
set_option maxRecDepth 65536 in
theorem w_alone : about1.alone = true := by decide +kernel
set_option maxRecDepth 65536 in
theorem w_named : about1.methodNamed? x = some theMethod := by decide +kernel
set_option maxRecDepth 65536 in
theorem w_hears : about1.hears theMethod below0 = true := by decide +kernel
set_option maxRecDepth 65536 in
theorem w_ripe : about1.ripe theMethod args0 below0 = true := by decide +kernel
theorem w_running : about1.status = .running := rfl
set_option maxRecDepth 65536 in
theorem w_room : about1.hasRoom e0.platform room_1 = true :=
  launch0.hasRoom_least _ room_1 (by decide +kernel) (by decide +kernel) (by decide +kernel) (by decide +kernel) (by decide +kernel) (by decide +kernel)
theorem allAtoms_all (ts : List Jvm.Cond) (a : Array Jvm.Value) (st : Jvm.State) : (allAtoms ts).before a st = ts.all (fun c => c.before a st) := by
  induction ts with
  | nil => rfl
  | cons c t ih =>
    show (Jvm.Cond.and c (allAtoms t)).before a st = _
    rw [Jvm.Cond.before_and, ih, List.all_cons]
def words1 : List Jvm.Cond := Jvm.Cond.code x code maxLocals ret :: tables_1
/-- a 'code' word, met by the world's own term for the bytes: nothing is compared byte by byte -/
theorem code_word {y : MethodName} {bytes : ByteArray} {mx : Nat} {rt : Option FieldType} {a : Array Value} {s : State} {m : MethodId} {meth : Method} {c : Code} (h1 : s.methodNamed? y = some m) (h2 : s.vm.method? m = some meth) (h3 : meth.code = some c) (h4 : c.code = bytes)
    (h5 : (c.maxLocals == mx && c.exceptionTable.isEmpty && decide (c.maxStack ≤ mostOperands) && decide (meth.sig.returnType = rt) && !meth.locks && decide (parseMethodDescriptor y.desc = some meth.sig)) = true) : (Jvm.Cond.code y bytes mx rt).before a s = true := by
  simp only [Bool.and_eq_true, beq_iff_eq, Bool.not_eq_true', decide_eq_true_eq] at h5
  obtain ⟨⟨⟨⟨⟨g1, g2⟩, g3⟩, g4⟩, g5⟩, g6⟩ := h5
  simp [Cond.before, Cond.holds, Cond.value, h1, h2, h3, h4, g1, g2, g3, g4, g5, g6]
def isCode : Jvm.Cond → Bool
  | .code _ _ _ _ => true
  | _ => false
theorem all_split {L : List Jvm.Cond} {P : Jvm.Cond → Bool} (h1 : L.all (fun c => isCode c || P c) = true) (h2 : ∀ c ∈ L.filter isCode, P c = true) : L.all P = true := by
  refine List.all_eq_true.mpr fun c hc => ?_
  have h := List.all_eq_true.mp h1 c hc
  rcases Bool.eq_false_or_eq_true (isCode c) with hi | hi
  · exact h2 c (List.mem_filter.mpr ⟨hc, hi⟩)
  · simpa [hi] using h
set_option maxRecDepth 65536 in
theorem w_c0 : (Jvm.Cond.code x code maxLocals ret).before args0 about1 = true := code_word (m := ⟨1, 1⟩) (meth := k1m1) (c := k1c1) (by decide +kernel) rfl rfl rfl (by decide +kernel)
set_option maxRecDepth 65536 in
theorem w_c1 : (Jvm.Cond.code ({ cls := "com/example/bindery/bindery/BooleanValue", name := "<init>", desc := "(Z)V" } : Jvm.MethodName) prog_14_method_1_code (2 : Nat) (Option.none : Option Jvm.ClassFile.FieldType)).before args0 about1 = true := code_word (m := ⟨4, 0⟩) (meth := k4m0) (c := k4c0) (by decide +kernel) rfl rfl rfl (by decide +kernel)
set_option maxRecDepth 65536 in
theorem w_c2 : (Jvm.Cond.code ({ cls := "java/lang/Record", name := "<init>", desc := "()V" } : Jvm.MethodName) jdk_30_method_1_code (1 : Nat) (Option.none : Option Jvm.ClassFile.FieldType)).before args0 about1 = true := code_word (m := ⟨2, 0⟩) (meth := k2m0) (c := k2c0) (by decide +kernel) rfl rfl rfl (by decide +kernel)
set_option maxRecDepth 65536 in
theorem w_c3 : (Jvm.Cond.code ({ cls := "java/lang/Object", name := "<init>", desc := "()V" } : Jvm.MethodName) object_method_1_code (1 : Nat) (Option.none : Option Jvm.ClassFile.FieldType)).before args0 about1 = true := code_word (m := ⟨0, 0⟩) (meth := k0m0) (c := k0c0) (by decide +kernel) rfl rfl rfl (by decide +kernel)
set_option maxRecDepth 65536 in
theorem w_c4 : (Jvm.Cond.code ({ cls := "com/example/bindery/bindery/IntegerValue", name := "<init>", desc := "(J)V" } : Jvm.MethodName) prog_130_method_1_code (3 : Nat) (Option.none : Option Jvm.ClassFile.FieldType)).before args0 about1 = true := code_word (m := ⟨5, 0⟩) (meth := k5m0) (c := k5c0) (by decide +kernel) rfl rfl rfl (by decide +kernel)
set_option maxRecDepth 65536 in
theorem w_c5 : (Jvm.Cond.code ({ cls := "com/example/bindery/bindery/BooleanValue", name := "equals", desc := "(Ljava/lang/Object;)Z" } : Jvm.MethodName) prog_14_method_4_code (3 : Nat) (Option.some Jvm.ClassFile.FieldType.boolean)).before args0 about1 = true := code_word (m := ⟨4, 1⟩) (meth := k4m1) (c := k4c1) (by decide +kernel) rfl rfl rfl (by decide +kernel)
def codes1 : List Jvm.Cond := [Jvm.Cond.code x code maxLocals ret, Jvm.Cond.code ({ cls := "com/example/bindery/bindery/BooleanValue", name := "<init>", desc := "(Z)V" } : Jvm.MethodName) prog_14_method_1_code (2 : Nat) (Option.none : Option Jvm.ClassFile.FieldType), Jvm.Cond.code ({ cls := "java/lang/Record", name := "<init>", desc := "()V" } : Jvm.MethodName) jdk_30_method_1_code (1 : Nat) (Option.none : Option Jvm.ClassFile.FieldType), Jvm.Cond.code ({ cls := "java/lang/Object", name := "<init>", desc := "()V" } : Jvm.MethodName) object_method_1_code (1 : Nat) (Option.none : Option Jvm.ClassFile.FieldType), Jvm.Cond.code ({ cls := "com/example/bindery/bindery/IntegerValue", name := "<init>", desc := "(J)V" } : Jvm.MethodName) prog_130_method_1_code (3 : Nat) (Option.none : Option Jvm.ClassFile.FieldType), Jvm.Cond.code ({ cls := "com/example/bindery/bindery/BooleanValue", name := "equals", desc := "(Ljava/lang/Object;)Z" } : Jvm.MethodName) prog_14_method_4_code (3 : Nat) (Option.some Jvm.ClassFile.FieldType.boolean)]
set_option maxRecDepth 65536 in
theorem codes_eq : words1.filter isCode = codes1 := rfl
theorem w_codes : ∀ c ∈ words1.filter isCode, c.before args0 about1 = true := by
  rw [codes_eq]
  intro c hc
  simp only [codes1, List.mem_cons, List.not_mem_nil, or_false] at hc
  rcases hc with rfl | rfl | rfl | rfl | rfl | rfl
  · exact w_c0
  · exact w_c1
  · exact w_c2
  · exact w_c3
  · exact w_c4
  · exact w_c5
set_option maxRecDepth 65536 in
theorem w_t1 : (words1.take 24).all (fun c => isCode c || c.before args0 about1) = true := by decide +kernel
set_option maxRecDepth 65536 in
theorem w_t2 : (words1.drop 24).all (fun c => isCode c || c.before args0 about1) = true := by decide +kernel
theorem w_tables : (allAtoms (Jvm.Cond.code x code maxLocals ret :: tables_1)).before args0 about1 = true := by
  rw [allAtoms_all]
  show words1.all (fun c => c.before args0 about1) = true
  refine all_split ?_ w_codes
  rw [← List.take_append_drop 24 words1, List.all_append, w_t1, w_t2]
  rfl
set_option maxRecDepth 65536 in
theorem w_case : (Jvm.Cond.and given_1 narrow_1).before args0 about1 = true := by decide +kernel
theorem w_applies : (headSpec (Jvm.Cond.code x code maxLocals ret :: tables_1) room_1).applies x e0.platform about1 = true :=
  (Spec.applies_iff w_frames).mpr ⟨w_running, w_runnable, w_alone, w_named, w_hears, w_ripe, w_room, w_tables⟩
theorem atStart : AtStart classFile x code maxLocals ret World_1 tables_1 room_1 Calls_1 rest_1 Pre_1 launch0 p0 e0 about1 theMethod args0 below0 :=
  ⟨lists_1, trivial, launch0.admits_env _ _ _, launch0.least_env, fairChoices_fair.cas, fairChoices_fair.clock, w_frames, w_args, w_heap, w_applies, trivial, trivial, w_case⟩
end start1
theorem witness_1 : WitnessClaimed_1 := ⟨start1.p0, start1.e0, start1.about1, start1.theMethod, start1.args0, start1.below0, start1.atStart⟩
end Jvm.Pilot.@@N@@
