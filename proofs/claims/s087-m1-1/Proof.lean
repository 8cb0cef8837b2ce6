import JvmDerived
import JvmDerived.Pilot.@@N@@Statement
import JvmDerived.Pilot.@@N@@Code
set_option linter.unusedVariables false
set_option linter.unusedSimpArgs false
namespace Jvm.Pilot.@@N@@
open Jvm Jvm.ClassFile Sem Op Lib Jvm.Free Jvm.Stand Jvm.LawKit Jvm.RoadKit Bundle Jvm.Pilot.@@N@@.Jvm.D
/-! from the state S the run comes to an end that QQ allows -/
def Goes (p : Program) (e : Env) (below : List Frame) (QQ : Outcome → State → Prop) (S : State) : Prop :=
  ∃ s₂ o, Steps p.tables e below S s₂ ∧ s₂.status = .running ∧ Ended s₂ below o ∧ QQ o s₂
theorem Goes.on {p : Program} {e : Env} {below : List Frame} {QQ : Outcome → State → Prop} {S S' : State} (h : ∀ t, Steps p.tables e below S' t → Steps p.tables e below S t) (g : Goes p e below QQ S') : Goes p e below QQ S := by
  obtain ⟨s₂, o, h1, h2⟩ := g
  exact ⟨s₂, o, h _ h1, h2⟩
theorem Goes.cast {p : Program} {e : Env} {below : List Frame} {QQ : Outcome → State → Prop} {T : State} {g g' : JFrame} (q : g = g') (k : Goes p e below QQ (T.setTop g')) : Goes p e below QQ (T.setTop g) := q ▸ k
def EndsQ (s : State) (Q : Option Value → Heap → List Loc → Prop) (kc ks : Nat) (o : Outcome) (U' : State) : Prop := ∃ v L, o = .returned v ∧ Q v U'.heap L ∧ FrameEnd s o U' L kc ks
/-- a result alone -/
def QP (x : Value) (h0 : Heap) (n0 : Nat) (v : Option Value) (h : Heap) (L : List Loc) : Prop := v = some x ∧ Fr n0 L ∧ h = h0
theorem own_enter {l : Launch} {y : MethodName} {bytes : ByteArray} {maxL : Nat} {rt : Option FieldType} {ws : List Jvm.Cond} {rm : Room} {as' : Array Value} {Q : Option Value → Heap → List Loc → Prop} {Z : State} {h0 : Heap} {kc ks : Nat} (hp : plainFor y = true)
    (body : ∀ (p : Program) (e : Env) (s : State) (m : MethodId) (below : List Frame) (meth : Method) (c : Code) (s₁ : State) (QQ : Outcome → State → Prop), (∀ o U', EndsQ s Q kc ks o U' → QQ o U') → p.tables.exec = Jvm.exec → c.code = bytes → c.maxLocals = maxL → s.vm.findClass y.cls = some m.cls → meth.name = y.name → meth.sig.returnType = rt → meth.locks = false → Z.Warmed39 s.vm → Stand p l e rm s m as' below meth c s₁ [] 0 0 → s₁.heap = h0 →
      Goes p e below QQ (s₁.setTop (entryFrame m as' maxL))) :
    MetFree l y (head1 (Jvm.Cond.code y bytes maxL rt :: ws) rm) (fun a U => a = as' ∧ Z.Warmed39 U.vm ∧ U.heap = h0) (fun _ _ _ _ _ => True) (fun _ U o U' => ∃ v L, o = .returned v ∧ Q v U'.heap L ∧ FrameEnd U o U' L kc ks) := by
  refine MetFree.of_bodySF hp hisR ?_
  intro p e s m args below meth c s₁ Bd hml0 hP hK
  obtain ⟨rfl, hZ, hh⟩ := hP
  exact body p e s m below meth c s₁ _ (fun o U' h => h) Bd.exec Bd.bytes hml0 (findClass_of_methodNamed Bd.named) (name_of_methodNamed Bd.named Bd.method).1 Bd.returns (BodyLoose.notSynchronized Bd) hZ (Stand.of_body Bd) (by rw [← hh, Bd.state]; rfl)
section Ret
variable {p : Program} {l : Launch} {e : Env} {R : Room} {s : State} {m : MethodId} {args : Array Value} {below : List Frame} {meth : Method} {c : Code} {T : State} {locs : List Loc} {cells slots kc ks : Nat} {QQ : Outcome → State → Prop} {Q : Option Value → Heap → List Loc → Prop}
theorem Goes.fin (X : Stand p l e R s m args below meth c T locs cells slots) (hlk : meth.locks = false) {v : Option Value} (hv : meth.sig.returnType = none → v = none) {g : JFrame}
    (step : ∀ fs : List Frame, (∀ (f : JFrame) (acts : List Action), f.method = m → f.locked = none → f.entered = [] → (doReturn e (T.setTop f) acts v).1 = T.setFrames fs) → Steps p.tables e below (T.setTop g) (T.setFrames fs))
    (hQQ : ∀ o U', EndsQ s Q kc ks o U' → QQ o U') (hq : Q v T.heap locs) (hc : cells ≤ kc) (hs : slots ≤ ks) : Goes p e below QQ (T.setTop g) := by
  obtain ⟨fs, hr, hrun, hended, hW, hsame⟩ := X.leave (v := v) hv hlk
  exact ⟨_, _, step fs hr, hrun, hended, hQQ _ _ ⟨v, locs, rfl, hq, ⟨v, rfl⟩, hW, hsame.mono hc hs⟩⟩
theorem Goes.rI (X : Stand p l e R s m args below meth c T locs cells slots) (hx : p.tables.exec = Jvm.exec) (hret : meth.sig.returnType = some .int) (hlk : meth.locks = false) {pc : Nat} {Ls : Array Slot} {z : Int32} {rest : List Value} (hd : decode c.code pc = .ok (.ireturn, 1))
    (hQQ : ∀ o U', EndsQ s Q kc ks o U' → QQ o U') (hq : Q (some (.int z)) T.heap locs) (hc : cells ≤ kc) (hs : slots ≤ ks) : Goes p e below QQ (T.setTop (mkF m pc Ls (.int z :: rest))) :=
  Goes.fin X hlk (v := some (.int z)) (fun h => by rw [hret] at h; cases h) (fun fs hr => retOut X hx hret rfl (Or.inl ⟨rfl, Or.inl rfl, z, rfl⟩) hd hr) hQQ hq hc hs
theorem Goes.rN (X : Stand p l e R s m args below meth c T locs cells slots) (hx : p.tables.exec = Jvm.exec) {t : FieldType} (hret : meth.sig.returnType = some t) (ht : t = .boolean ∨ t = .byte ∨ t = .char ∨ t = .short) (hlk : meth.locks = false) {pc : Nat} {Ls : Array Slot} {z : Int32} {rest : List Value} (hd : decode c.code pc = .ok (.ireturn, 1))
    (hQQ : ∀ o U', EndsQ s Q kc ks o U' → QQ o U') (hq : Q (some (.int (nar t z))) T.heap locs) (hc : cells ≤ kc) (hs : slots ≤ ks) : Goes p e below QQ (T.setTop (mkF m pc Ls (.int z :: rest))) :=
  Goes.fin X hlk (v := some (.int (nar t z))) (fun h => by rw [hret] at h; cases h) (fun fs hr => retN X hx hret ht hd hr) hQQ hq hc hs
theorem Goes.rJ (X : Stand p l e R s m args below meth c T locs cells slots) (hx : p.tables.exec = Jvm.exec) (hret : meth.sig.returnType = some .long) (hlk : meth.locks = false) {pc : Nat} {Ls : Array Slot} {z : Int64} {rest : List Value} (hd : decode c.code pc = .ok (.lreturn, 1))
    (hQQ : ∀ o U', EndsQ s Q kc ks o U' → QQ o U') (hq : Q (some (.long z)) T.heap locs) (hc : cells ≤ kc) (hs : slots ≤ ks) : Goes p e below QQ (T.setTop (mkF m pc Ls (.long z :: rest))) :=
  Goes.fin X hlk (v := some (.long z)) (fun h => by rw [hret] at h; cases h) (fun fs hr => retOut X hx hret rfl (Or.inr (Or.inl ⟨rfl, rfl, z, rfl⟩)) hd hr) hQQ hq hc hs
theorem Goes.rA (X : Stand p l e R s m args below meth c T locs cells slots) (hx : p.tables.exec = Jvm.exec) {t : FieldType} (hret : meth.sig.returnType = some t) (ht : t.isReference = true) {w : Value} (hw : w.isRef = true) (hlk : meth.locks = false) {pc : Nat} {Ls : Array Slot} {rest : List Value} (hd : decode c.code pc = .ok (.areturn, 1))
    (hQQ : ∀ o U', EndsQ s Q kc ks o U' → QQ o U') (hq : Q (some w) T.heap locs) (hc : cells ≤ kc) (hs : slots ≤ ks) : Goes p e below QQ (T.setTop (mkF m pc Ls (w :: rest))) :=
  Goes.fin X hlk (v := some w) (fun h => by rw [hret] at h; cases h) (fun fs hr => retOut X hx hret (by cases w <;> first | (cases hw; done) | (cases t <;> first | (cases ht; done) | rfl)) (Or.inr (Or.inr (Or.inr (Or.inr ⟨rfl, ht, hw⟩)))) hd hr) hQQ hq hc hs
theorem Goes.rV (X : Stand p l e R s m args below meth c T locs cells slots) (hx : p.tables.exec = Jvm.exec) (hret : meth.sig.returnType = none) (hlk : meth.locks = false) {pc : Nat} {Ls : Array Slot} (hd : decode c.code pc = .ok (.return_, 1))
    (hQQ : ∀ o U', EndsQ s Q kc ks o U' → QQ o U') (hq : Q none T.heap locs) (hc : cells ≤ kc) (hs : slots ≤ ks) : Goes p e below QQ (T.setTop (mkF m pc Ls [])) :=
  Goes.fin X hlk (v := none) (fun _ => rfl) (fun fs hr => X.returnOut hx hret hd hr) hQQ hq hc hs
end Ret
/-- what the law leaves: it returned 1, and nothing old was written -/
def QL (n0 : Nat) (v : Option Value) (h : Heap) (L : List Loc) : Prop := v = some (.int 1) ∧ Fr n0 L
/-- nothing returned, the heap as it was -/
def QV (h0 : Heap) (n0 : Nat) (v : Option Value) (h : Heap) (L : List Loc) : Prop := v = none ∧ Fr n0 L ∧ h = h0
def QN (a1 : Addr) (h0 : Heap) (n0 : Nat) (v : Option Value) (h : Heap) (L : List Loc) : Prop := v = none ∧ Fr n0 L ∧ Keep h0 h [a1]
/-- the step's own fields -/
def Fs (Z : State) (h : Heap) (a1 : Addr) (mv : Value) (vr nx en bo : Int32) : Prop := Fld Z h a1 "com/example/clew/clew/algebra/Step$Members" "members" "[I" mv ∧ Fld Z h a1 "com/example/clew/clew/algebra/Step$Members" "variable" "I" (.int vr) ∧ Fld Z h a1 "com/example/clew/clew/algebra/Step$Members" "next" "I" (.int nx) ∧ Fld Z h a1 "com/example/clew/clew/algebra/Step$Members" "end" "I" (.int en) ∧ Fld Z h a1 "com/example/clew/clew/algebra/Step$Members" "bound" "Z" (.int bo)
def QS (Z : State) (a1 : Addr) (mv : Value) (vr nx en bo : Int32) (h0 : Heap) (n0 : Nat) (v : Option Value) (h : Heap) (L : List Loc) : Prop := v = none ∧ Fr n0 L ∧ Keep h0 h [a1] ∧ Fs Z h a1 mv vr nx en bo
def QY (Z : State) (a1 a2 : Addr) (mv : Value) (vr nx en bo : Int32) (kr : ClassId) (rs : List Value) (h0 : Heap) (n0 : Nat) (v : Option Value) (h : Heap) (L : List Loc) : Prop := v = some (.int 1) ∧ Fr n0 L ∧ Keep h0 h [a1, a2] ∧ Fs Z h a1 mv vr nx en bo ∧ Arv Z h a2 kr .int (4 : Int32) rs (.int (0 : Int32))
theorem own_anyK {Z : State} {h h' : Heap} {a : Addr} {O n d : String} {v : Value} {ws : List Addr} (F : Fld Z h a O n d v) (K : Keep h h' ws) : ∃ v', Fld Z h' a O n d v' := by
  obtain ⟨cell, cf, k, i, f, h1, h2, h3, h4, h5, h6, h7⟩ := F
  obtain ⟨c', e1, e2, e3, e4⟩ := K.2.2 a cell h1
  have hlt : f.slot < c'.slots.size := by rw [e4]; exact (Array.getElem?_eq_some_iff.mp h7).1
  exact ⟨_, c', cf, k, i, f, e1, h2, h3, by rw [e3]; exact h4, by rw [e3]; exact h5, by rw [e2]; exact h6, Array.getElem?_eq_getElem hlt⟩
theorem d6_0 : decode jdk_22_method_1_code 0 = .ok (.aload_n 0, 1) := by decide +kernel
theorem d6_1 : decode jdk_22_method_1_code 1 = .ok (.invokespecial 1, 3) := by decide +kernel
theorem d6_4 : decode jdk_22_method_1_code 4 = .ok (.return_, 1) := by decide +kernel
theorem pn_6 : plainFor (⟨"java/util/AbstractCollection", "<init>", "()V"⟩ : MethodName) = true := plainFor_of_name (show plainName "java/util/AbstractCollection" = true by first | (simp [plainName, overriddenIn]; done) | decide +kernel)
theorem ef_rmAC (m : MethodId) (x0 : Addr) : entryFrame m #[(.ref x0)] 1 = mkF m 0 #[rv x0] [] := by first | (simp [entryFrame, mkF, argsToLocals, Value.category]; done) | rfl
set_option maxRecDepth 65536 in
set_option maxHeartbeats 40000000 in
theorem rmAC (l : Launch) (Z : State) (a0 : Array Value) (hw : ∀ d ∈ tables_1, d.before a0 Z = true) (ws : List Jvm.Cond) (a1 : Addr) (h0 : Heap) (n0 : Nat) (Z0 : n0 ≤ h0.size)  :
    MetFree l (⟨"java/util/AbstractCollection", "<init>", "()V"⟩ : MethodName) (head1 (Jvm.Cond.code (⟨"java/util/AbstractCollection", "<init>", "()V"⟩ : MethodName) jdk_22_method_1_code 1 none :: ws) ({ frames := 1, cells := 0, slots := 0, locals := 12 } : Room)) (fun a U => a = #[(.ref a1)] ∧ Z.Warmed39 U.vm ∧ U.heap = h0) (fun _ _ _ _ _ => True) (fun _ U o U' => ∃ v L, o = .returned v ∧ QV h0 n0 v U'.heap L ∧ FrameEnd U o U' L ({ frames := 1, cells := 0, slots := 0, locals := 12 } : Room).cells ({ frames := 1, cells := 0, slots := 0, locals := 12 } : Room).slots) := by
  refine own_enter pn_6 ?_
  intro p e s m below meth c s₁ QQ hQQ hx hby hml hown hnm hret hlk hZ X0 e0
  have hown : s.vm.findClass "java/util/AbstractCollection" = some m.cls := hown
  have hml : c.maxLocals = 1 := hml
  have hret : meth.sig.returnType = none := hret
  have N0 := Fr.nil n0
  have K0 := Keep.refl h0 []
  refine Goes.cast (ef_rmAC m a1) ?_
  show Goes p e below QQ (s₁.setTop (mkF m 0 #[rv a1] []))
  refine Goes.on (fun t k => XS.aloadN X0.here hx rfl (hb hby d6_0) rfl rfl k) ?_
  show Goes p e below QQ (s₁.setTop (mkF m 1 #[rv a1] [(.ref a1)]))
  obtain ⟨T1, X1, e1, st1⟩ := initO X0 hx hZ hown (hw _ (List.mem_of_getElem? (i := 33) rfl)) (hw _ (List.mem_of_getElem? (i := 13) rfl)) (hw _ (List.mem_of_getElem? (i := 14) rfl)) e0 (g := (mkF m 1 #[rv a1] [(.ref a1)])) rfl (by rw [hml]; rfl) rfl (hb hby d6_1) (by decide) (W := 0) (by show 2 * 0 + _ ≤ _; exact Nat.le_of_eq rfl) (by decide)
  refine Goes.on (fun t k => st1 t k) ?_
  show Goes p e below QQ (T1.setTop (mkF m 4 #[rv a1] []))
  exact Goes.rV X1 hx hret hlk (hb hby d6_4) hQQ ⟨rfl, N0, e1⟩ (by decide) (by decide)
theorem d5_0 : decode jdk_39_method_1_code 0 = .ok (.aload_n 0, 1) := by decide +kernel
theorem d5_1 : decode jdk_39_method_1_code 1 = .ok (.invokespecial 1, 3) := by decide +kernel
theorem d5_4 : decode jdk_39_method_1_code 4 = .ok (.aload_n 0, 1) := by decide +kernel
theorem d5_5 : decode jdk_39_method_1_code 5 = .ok (.iconst 0, 1) := by decide +kernel
theorem d5_6 : decode jdk_39_method_1_code 6 = .ok (.putfield 7, 3) := by decide +kernel
theorem d5_9 : decode jdk_39_method_1_code 9 = .ok (.return_, 1) := by decide +kernel
theorem pn_5 : plainFor (⟨"java/util/AbstractList", "<init>", "()V"⟩ : MethodName) = true := plainFor_of_name (show plainName "java/util/AbstractList" = true by first | (simp [plainName, overriddenIn]; done) | decide +kernel)
theorem ef_rmAb (m : MethodId) (x0 : Addr) : entryFrame m #[(.ref x0)] 1 = mkF m 0 #[rv x0] [] := by first | (simp [entryFrame, mkF, argsToLocals, Value.category]; done) | rfl
theorem pd_0 : parseMethodDescriptor "()V" = some ⟨[], none⟩ := by decide +kernel
set_option maxRecDepth 65536 in
set_option maxHeartbeats 40000000 in
theorem rmAb (l : Launch) (Z : State) (a0 : Array Value) (hw : ∀ d ∈ tables_1, d.before a0 Z = true) (ws : List Jvm.Cond) (a1 : Addr) (h0 : Heap) (n0 : Nat) (Z0 : n0 ≤ h0.size) (E_a1 : Exa Z h0 a1 "java/util/ArrayList") (F_modCount_a1 : Fld Z h0 a1 "java/util/AbstractList" "modCount" "I" (.int 0)) (g_a1 : n0 ≤ a1) :
    MetFree l (⟨"java/util/AbstractList", "<init>", "()V"⟩ : MethodName) (head1 (Jvm.Cond.code (⟨"java/util/AbstractList", "<init>", "()V"⟩ : MethodName) jdk_39_method_1_code 1 none :: ws) ({ frames := 2, cells := 0, slots := 0, locals := 24 } : Room)) (fun a U => a = #[(.ref a1)] ∧ Z.Warmed39 U.vm ∧ U.heap = h0) (fun _ _ _ _ _ => True) (fun _ U o U' => ∃ v L, o = .returned v ∧ QN a1 h0 n0 v U'.heap L ∧ FrameEnd U o U' L ({ frames := 2, cells := 0, slots := 0, locals := 24 } : Room).cells ({ frames := 2, cells := 0, slots := 0, locals := 24 } : Room).slots) := by
  refine own_enter pn_5 ?_
  intro p e s m below meth c s₁ QQ hQQ hx hby hml hown hnm hret hlk hZ X0 e0
  have hown : s.vm.findClass "java/util/AbstractList" = some m.cls := hown
  have hml : c.maxLocals = 1 := hml
  have hret : meth.sig.returnType = none := hret
  have N0 := Fr.nil n0
  have K0 := Keep.refl h0 [a1]
  refine Goes.cast (ef_rmAb m a1) ?_
  show Goes p e below QQ (s₁.setTop (mkF m 0 #[rv a1] []))
  refine Goes.on (fun t k => XS.aloadN X0.here hx rfl (hb hby d5_0) rfl rfl k) ?_
  show Goes p e below QQ (s₁.setTop (mkF m 1 #[rv a1] [(.ref a1)]))
  obtain ⟨_, _, ⟨T1, L1, k1, n1⟩, -, X1, ⟨Lc1, hQ1, l1, y1, z1⟩, st1⟩ := X0.specialBack hx (y := (⟨"java/util/AbstractCollection", "<init>", "()V"⟩ : MethodName)) rfl hown (mvT hZ (hw _ (List.mem_of_getElem? (i := 27) rfl))) (mvT hZ (hw _ (List.mem_of_getElem? (i := 28) rfl))) (mvT hZ (hw _ (List.mem_of_getElem? (i := 32) rfl))) (by decide) (backOf (W := 0) (rmAC l Z a0 hw [] a1 h0 n0 (Nat.le_trans Z0 K0.1)) hZ (hw _ (List.mem_of_getElem? (i := 32) rfl)) (hw _ (List.mem_of_getElem? (i := 31) rfl)) (by decide) (by decide)) (g := (mkF m 1 #[rv a1] [(.ref a1)])) rfl (by rw [hml]; rfl) (Steps.refl _) (a := a1) (argsL := []) (rest := []) (lenOf pd_0 rfl) rfl (by show 2 * 0 + _ ≤ _; exact Nat.le_of_eq rfl) (hb hby d5_1) (fun _ _ => ⟨rfl, e0, (by decide : 0 + 0 ≤ _), (by decide : 0 + 0 ≤ _)⟩)
  dsimp only [Pt.U, Pt.locs, Pt.cells, Pt.slots] at X1 l1 y1 z1 st1 hQ1
  subst l1 y1 z1
  obtain ⟨rfl, M1, e1⟩ := hQ1
  have N1 := Fr.app N0 M1
  refine Goes.on (fun t k => st1.trans k) ?_
  show Goes p e below QQ (T1.setTop (mkF m 4 #[rv a1] []))
  refine Goes.on (fun t k => XS.aloadN X1.here hx rfl (hb hby d5_4) rfl rfl k) ?_
  show Goes p e below QQ (T1.setTop (mkF m 5 #[rv a1] [(.ref a1)]))
  refine Goes.on (fun t k => XS.iconst X1.here hx rfl (hb hby d5_5) k) ?_
  show Goes p e below QQ (T1.setTop (mkF m 6 #[rv a1] [(.int 0), (.ref a1)]))
  obtain ⟨T2, h2, X2, e2, W2, st2⟩ := putF X1 hx hZ hown (host := "") (Or.inl (hw _ (List.mem_of_getElem? (i := 34) rfl))) Via.refl e1 F_modCount_a1 E_a1 (Or.inl (hw _ (List.mem_of_getElem? (i := 35) rfl))) (hw _ (List.mem_of_getElem? (i := 16) rfl)) (ty := .int) (by decide) rfl rfl (g := (mkF m 6 #[rv a1] [(.int 0), (.ref a1)])) rfl rfl (hb hby d5_6)
  have E_3 := E_a1.wr W2
  have K2 := K0.wr W2 (Or.inl (List.mem_of_getElem? (i := 0) rfl))
  have N2 := Fr.snoc X2 N1 g_a1
  have F_4 : Fld Z h2 a1 "java/util/AbstractList" "modCount" "I" (.int 0) := F_modCount_a1.same W2
  refine Goes.on (fun t k => st2 t k) ?_
  show Goes p e below QQ (T2.setTop (mkF m 9 #[rv a1] []))
  exact Goes.rV X2 hx hret hlk (hb hby d5_9) hQQ (by rw [e2]; exact ⟨rfl, N2, K2⟩) (by decide) (by decide)
theorem d4_0 : decode jdk_38_method_2_code 0 = .ok (.aload_n 0, 1) := by decide +kernel
theorem d4_1 : decode jdk_38_method_2_code 1 = .ok (.invokespecial 1, 3) := by decide +kernel
theorem d4_4 : decode jdk_38_method_2_code 4 = .ok (.aload_n 0, 1) := by decide +kernel
theorem d4_5 : decode jdk_38_method_2_code 5 = .ok (.getstatic 39, 3) := by decide +kernel
theorem d4_8 : decode jdk_38_method_2_code 8 = .ok (.putfield 9, 3) := by decide +kernel
theorem d4_11 : decode jdk_38_method_2_code 11 = .ok (.return_, 1) := by decide +kernel
theorem pn_4 : plainFor (⟨"java/util/ArrayList", "<init>", "()V"⟩ : MethodName) = true := plainFor_of_name (show plainName "java/util/ArrayList" = true by first | (simp [plainName, overriddenIn]; done) | decide +kernel)
theorem ef_rmAr (m : MethodId) (x0 : Addr) : entryFrame m #[(.ref x0)] 1 = mkF m 0 #[rv x0] [] := by first | (simp [entryFrame, mkF, argsToLocals, Value.category]; done) | rfl
set_option maxRecDepth 65536 in
set_option maxHeartbeats 40000000 in
theorem rmAr (l : Launch) (Z : State) (a0 : Array Value) (hw : ∀ d ∈ tables_1, d.before a0 Z = true) (ws : List Jvm.Cond) (a1 xD : Addr) (h0 : Heap) (n0 : Nat) (Z0 : n0 ≤ h0.size) (E_a1 : Exa Z h0 a1 "java/util/ArrayList") (F_modCount_a1 : Fld Z h0 a1 "java/util/AbstractList" "modCount" "I" (.int 0)) (F_elementData_a1 : Fld Z h0 a1 "java/util/ArrayList" "elementData" "[Ljava/lang/Object;" .null) (g_a1 : n0 ≤ a1) (S_DEFAULTCAPACITY_EMPTY_ELEMENTDATA : Sta Z Z.heap "java/util/ArrayList" "DEFAULTCAPACITY_EMPTY_ELEMENTDATA" "[Ljava/lang/Object;" (.ref xD)) (O_0 : Old Z n0 h0) :
    MetFree l (⟨"java/util/ArrayList", "<init>", "()V"⟩ : MethodName) (head1 (Jvm.Cond.code (⟨"java/util/ArrayList", "<init>", "()V"⟩ : MethodName) jdk_38_method_2_code 1 none :: ws) ({ frames := 3, cells := 0, slots := 0, locals := 36 } : Room)) (fun a U => a = #[(.ref a1)] ∧ Z.Warmed39 U.vm ∧ U.heap = h0) (fun _ _ _ _ _ => True) (fun _ U o U' => ∃ v L, o = .returned v ∧ QN a1 h0 n0 v U'.heap L ∧ FrameEnd U o U' L ({ frames := 3, cells := 0, slots := 0, locals := 36 } : Room).cells ({ frames := 3, cells := 0, slots := 0, locals := 36 } : Room).slots) := by
  refine own_enter pn_4 ?_
  intro p e s m below meth c s₁ QQ hQQ hx hby hml hown hnm hret hlk hZ X0 e0
  have hown : s.vm.findClass "java/util/ArrayList" = some m.cls := hown
  have hml : c.maxLocals = 1 := hml
  have hret : meth.sig.returnType = none := hret
  have N0 := Fr.nil n0
  have K0 := Keep.refl h0 [a1]
  refine Goes.cast (ef_rmAr m a1) ?_
  show Goes p e below QQ (s₁.setTop (mkF m 0 #[rv a1] []))
  refine Goes.on (fun t k => XS.aloadN X0.here hx rfl (hb hby d4_0) rfl rfl k) ?_
  show Goes p e below QQ (s₁.setTop (mkF m 1 #[rv a1] [(.ref a1)]))
  obtain ⟨_, _, ⟨T1, L1, k1, n1⟩, -, X1, ⟨Lc1, hQ1, l1, y1, z1⟩, st1⟩ := X0.specialBack hx (y := (⟨"java/util/AbstractList", "<init>", "()V"⟩ : MethodName)) rfl hown (mvT hZ (hw _ (List.mem_of_getElem? (i := 21) rfl))) (mvT hZ (hw _ (List.mem_of_getElem? (i := 22) rfl))) (mvT hZ (hw _ (List.mem_of_getElem? (i := 26) rfl))) (by decide) (backOf (W := 0) (rmAb l Z a0 hw [] a1 h0 n0 (Nat.le_trans Z0 K0.1) E_a1 F_modCount_a1 g_a1) hZ (hw _ (List.mem_of_getElem? (i := 26) rfl)) (hw _ (List.mem_of_getElem? (i := 25) rfl)) (by decide) (by decide)) (g := (mkF m 1 #[rv a1] [(.ref a1)])) rfl (by rw [hml]; rfl) (Steps.refl _) (a := a1) (argsL := []) (rest := []) (lenOf pd_0 rfl) rfl (by show 2 * 0 + _ ≤ _; exact Nat.le_of_eq rfl) (hb hby d4_1) (fun _ _ => ⟨rfl, e0, (by decide : 0 + 0 ≤ _), (by decide : 0 + 0 ≤ _)⟩)
  dsimp only [Pt.U, Pt.locs, Pt.cells, Pt.slots] at X1 l1 y1 z1 st1 hQ1
  subst l1 y1 z1
  obtain ⟨rfl, M1, Kb⟩ := hQ1
  have N1 := Fr.app N0 M1
  refine Goes.on (fun t k => st1.trans k) ?_
  have E_2 := E_a1.keep Kb
  have O_5 := O_0.keep Kb (allS g_a1 all0)
  have K6 := K0.trans Kb (allS (Or.inl (List.mem_of_getElem? (i := 0) rfl)) all0)
  show Goes p e below QQ (T1.setTop (mkF m 4 #[rv a1] []))
  obtain ⟨ov, Fov⟩ := own_anyK F_elementData_a1 Kb
  refine Goes.on (fun t k => XS.aloadN X1.here hx rfl (hb hby d4_4) rfl rfl k) ?_
  show Goes p e below QQ (T1.setTop (mkF m 5 #[rv a1] [(.ref a1)]))
  obtain ⟨T7, X7, e7, st7⟩ := getS2 X1 hx hZ hown (host := "") (Or.inl (hw _ (List.mem_of_getElem? (i := 36) rfl))) Via.refl rfl (S_DEFAULTCAPACITY_EMPTY_ELEMENTDATA.ext O_5.2) (g := (mkF m 5 #[rv a1] [(.ref a1)])) rfl (hb hby d4_5)
  refine Goes.on (fun t k => st7 t k) ?_
  show Goes p e below QQ (T7.setTop (mkF m 8 #[rv a1] [(.ref xD), (.ref a1)]))
  obtain ⟨T8, h8, X8, e8, W8, st8⟩ := putF X7 hx hZ hown (host := "") (Or.inl (hw _ (List.mem_of_getElem? (i := 37) rfl))) Via.refl e7 Fov E_2 (Or.inl (hw _ (List.mem_of_getElem? (i := 38) rfl))) (hw _ (List.mem_of_getElem? (i := 16) rfl)) (ty := (.array (.object "java/lang/Object"))) (by decide) rfl rfl (g := (mkF m 8 #[rv a1] [(.ref xD), (.ref a1)])) rfl rfl (hb hby d4_8)
  have E_9 := E_2.wr W8
  have O_10 := O_5.wr W8 g_a1
  have K8 := K6.wr W8 (Or.inl (List.mem_of_getElem? (i := 0) rfl))
  have N8 := Fr.snoc X8 N1 g_a1
  have F_11 : Fld Z h8 a1 "java/util/ArrayList" "elementData" "[Ljava/lang/Object;" (.ref xD) := Fov.same W8
  refine Goes.on (fun t k => st8 t k) ?_
  show Goes p e below QQ (T8.setTop (mkF m 11 #[rv a1] []))
  exact Goes.rV X8 hx hret hlk (hb hby d4_11) hQQ (by rw [e8]; exact ⟨rfl, N8, K8⟩) (by decide) (by decide)
theorem d2_0 : decode prog_50_method_1_code 0 = .ok (.aload_n 0, 1) := by decide +kernel
theorem d2_1 : decode prog_50_method_1_code 1 = .ok (.invokespecial 1, 3) := by decide +kernel
theorem d2_4 : decode prog_50_method_1_code 4 = .ok (.aload_n 0, 1) := by decide +kernel
theorem d2_5 : decode prog_50_method_1_code 5 = .ok (.new 7, 3) := by decide +kernel
theorem d2_8 : decode prog_50_method_1_code 8 = .ok (.dup, 1) := by decide +kernel
theorem d2_9 : decode prog_50_method_1_code 9 = .ok (.invokespecial 9, 3) := by decide +kernel
theorem d2_12 : decode prog_50_method_1_code 12 = .ok (.putfield 10, 3) := by decide +kernel
theorem d2_15 : decode prog_50_method_1_code 15 = .ok (.aload_n 0, 1) := by decide +kernel
theorem d2_16 : decode prog_50_method_1_code 16 = .ok (.aload_n 1, 1) := by decide +kernel
theorem d2_17 : decode prog_50_method_1_code 17 = .ok (.putfield 16, 3) := by decide +kernel
theorem d2_20 : decode prog_50_method_1_code 20 = .ok (.return_, 1) := by decide +kernel
theorem pn_2 : plainFor (⟨"com/example/clew/clew/algebra/Step", "<init>", "([I)V"⟩ : MethodName) = true := plainFor_of_name (show plainName "com/example/clew/clew/algebra/Step" = true by first | (simp [plainName, overriddenIn]; done) | decide +kernel)
theorem ef_rmSt (m : MethodId) (x0 : Addr) (x1 : Addr) : entryFrame m #[(.ref x0), (.ref x1)] 2 = mkF m 0 #[rv x0, rv x1] [] := by first | (simp [entryFrame, mkF, argsToLocals, Value.category]; done) | rfl
set_option maxRecDepth 65536 in
set_option maxHeartbeats 40000000 in
theorem rmSt (l : Launch) (Z : State) (a0 : Array Value) (hw : ∀ d ∈ tables_1, d.before a0 Z = true) (ws : List Jvm.Cond) (a1 a2 xD : Addr) (h0 : Heap) (n0 : Nat) (Z0 : n0 ≤ h0.size) (E_a1 : Exa Z h0 a1 "com/example/clew/clew/algebra/Step$Members") (F_tests_a1 : Fld Z h0 a1 "com/example/clew/clew/algebra/Step" "tests" "Ljava/util/List;" .null) (F_variables_a1 : Fld Z h0 a1 "com/example/clew/clew/algebra/Step" "variables" "[I" .null) (F_members_a1 : Fld Z h0 a1 "com/example/clew/clew/algebra/Step$Members" "members" "[I" .null) (F_variable_a1 : Fld Z h0 a1 "com/example/clew/clew/algebra/Step$Members" "variable" "I" (.int 0)) (F_next_a1 : Fld Z h0 a1 "com/example/clew/clew/algebra/Step$Members" "next" "I" (.int 0)) (F_end_a1 : Fld Z h0 a1 "com/example/clew/clew/algebra/Step$Members" "end" "I" (.int 0)) (F_bound_a1 : Fld Z h0 a1 "com/example/clew/clew/algebra/Step$Members" "bound" "Z" (.int 0)) (g_a1 : n0 ≤ a1) (S_DEFAULTCAPACITY_EMPTY_ELEMENTDATA : Sta Z Z.heap "java/util/ArrayList" "DEFAULTCAPACITY_EMPTY_ELEMENTDATA" "[Ljava/lang/Object;" (.ref xD)) (O_0 : Old Z n0 h0) :
    MetFree l (⟨"com/example/clew/clew/algebra/Step", "<init>", "([I)V"⟩ : MethodName) (head1 (Jvm.Cond.code (⟨"com/example/clew/clew/algebra/Step", "<init>", "([I)V"⟩ : MethodName) prog_50_method_1_code 2 none :: ws) ({ frames := 4, cells := 1, slots := 3, locals := 50 } : Room)) (fun a U => a = #[(.ref a1), (.ref a2)] ∧ Z.Warmed39 U.vm ∧ U.heap = h0) (fun _ _ _ _ _ => True) (fun _ U o U' => ∃ v L, o = .returned v ∧ QS Z a1 .null 0 0 0 0 h0 n0 v U'.heap L ∧ FrameEnd U o U' L ({ frames := 4, cells := 1, slots := 3, locals := 50 } : Room).cells ({ frames := 4, cells := 1, slots := 3, locals := 50 } : Room).slots) := by
  refine own_enter pn_2 ?_
  intro p e s m below meth c s₁ QQ hQQ hx hby hml hown hnm hret hlk hZ X0 e0
  have hown : s.vm.findClass "com/example/clew/clew/algebra/Step" = some m.cls := hown
  have hml : c.maxLocals = 2 := hml
  have hret : meth.sig.returnType = none := hret
  have N0 := Fr.nil n0
  have K0 := Keep.refl h0 [a1]
  refine Goes.cast (ef_rmSt m a1 a2) ?_
  show Goes p e below QQ (s₁.setTop (mkF m 0 #[rv a1, rv a2] []))
  refine Goes.on (fun t k => XS.aloadN X0.here hx rfl (hb hby d2_0) rfl rfl k) ?_
  show Goes p e below QQ (s₁.setTop (mkF m 1 #[rv a1, rv a2] [(.ref a1)]))
  obtain ⟨T1, X1, e1, st1⟩ := initO X0 hx hZ hown (hw _ (List.mem_of_getElem? (i := 12) rfl)) (hw _ (List.mem_of_getElem? (i := 13) rfl)) (hw _ (List.mem_of_getElem? (i := 14) rfl)) e0 (g := (mkF m 1 #[rv a1, rv a2] [(.ref a1)])) rfl (by rw [hml]; rfl) rfl (hb hby d2_1) (by decide) (W := 0) (by show 2 * 0 + _ ≤ _; exact Nat.le_of_eq rfl) (by decide)
  refine Goes.on (fun t k => st1 t k) ?_
  show Goes p e below QQ (T1.setTop (mkF m 4 #[rv a1, rv a2] []))
  refine Goes.on (fun t k => XS.aloadN X1.here hx rfl (hb hby d2_4) rfl rfl k) ?_
  show Goes p e below QQ (T1.setTop (mkF m 5 #[rv a1, rv a2] [(.ref a1)]))
  obtain ⟨T2, h2, X2, e2, E2, A2, D2, -, st2⟩ := newO X1 hx hZ hown (hw _ (List.mem_of_getElem? (i := 15) rfl)) (hw _ (List.mem_of_getElem? (i := 16) rfl)) (hw _ (List.mem_of_getElem? (i := 17) rfl)) e1 (g := (mkF m 5 #[rv a1, rv a2] [(.ref a1)])) rfl (hb hby d2_5) (by decide) (by decide)
  obtain ⟨b2, g2⟩ : ∃ z, z = h0.size := ⟨_, rfl⟩
  rw [← g2] at A2 D2 st2
  have sz_b2 : h0.size ≤ b2 := Nat.le_trans K0.1 (Nat.le_of_eq g2.symm)
  have g_b2 : n0 ≤ b2 := Nat.le_trans Z0 sz_b2
  have ne_a1_b2 : a1 ≠ b2 := Nat.ne_of_lt (Nat.lt_of_lt_of_le E_a1.lt (Nat.le_of_eq g2.symm))
  have E_3 := E_a1.ext E2
  have F_4 := F_tests_a1.ext E2
  have F_5 := F_variables_a1.ext E2
  have F_6 := F_members_a1.ext E2
  have F_7 := F_variable_a1.ext E2
  have F_8 := F_next_a1.ext E2
  have F_9 := F_end_a1.ext E2
  have F_10 := F_bound_a1.ext E2
  have O_11 := O_0.ext E2
  have K2 := K0.ext E2
  have F_12 : Fld Z h2 b2 "java/util/AbstractList" "modCount" "I" (.int 0) := D2 (Or.inl (hw _ (List.mem_of_getElem? (i := 35) rfl))) (ty := .int) (by decide)
  have F_13 : Fld Z h2 b2 "java/util/ArrayList" "elementData" "[Ljava/lang/Object;" .null := D2 (Or.inl (hw _ (List.mem_of_getElem? (i := 38) rfl))) (ty := (.array (.object "java/lang/Object"))) (by decide)
  refine Goes.on (fun t k => st2 t k) ?_
  show Goes p e below QQ (T2.setTop (mkF m 8 #[rv a1, rv a2] [(.ref b2), (.ref a1)]))
  refine Goes.on (fun t k => XS.dup X2.here hx rfl (hb hby d2_8) rfl rfl k) ?_
  show Goes p e below QQ (T2.setTop (mkF m 9 #[rv a1, rv a2] [(.ref b2), (.ref b2), (.ref a1)]))
  obtain ⟨_, _, ⟨T15, L15, k15, n15⟩, -, X15, ⟨Lc15, hQ15, l15, y15, z15⟩, st15⟩ := X2.specialBack hx (y := (⟨"java/util/ArrayList", "<init>", "()V"⟩ : MethodName)) rfl hown (mvT hZ (hw _ (List.mem_of_getElem? (i := 18) rfl))) (mvT hZ (hw _ (List.mem_of_getElem? (i := 19) rfl))) (mvT hZ (hw _ (List.mem_of_getElem? (i := 20) rfl))) (by decide) (backOf (W := 2) (rmAr l Z a0 hw [] b2 xD h2 n0 (Nat.le_trans Z0 K2.1) A2 F_12 F_13 g_b2 S_DEFAULTCAPACITY_EMPTY_ELEMENTDATA O_11) hZ (hw _ (List.mem_of_getElem? (i := 20) rfl)) (hw _ (List.mem_of_getElem? (i := 17) rfl)) (by decide) (by decide)) (g := (mkF m 9 #[rv a1, rv a2] [(.ref b2), (.ref b2), (.ref a1)])) rfl (by rw [hml]; rfl) (Steps.refl _) (a := b2) (argsL := []) (rest := [(.ref b2), (.ref a1)]) (lenOf pd_0 rfl) rfl (by show 2 * 0 + _ ≤ _; exact Nat.le_of_eq rfl) (hb hby d2_9) (fun _ _ => ⟨rfl, e2, (by decide : 1 + 0 ≤ _), (by decide : 3 + 0 ≤ _)⟩)
  dsimp only [Pt.U, Pt.locs, Pt.cells, Pt.slots] at X15 l15 y15 z15 st15 hQ15
  subst l15 y15 z15
  obtain ⟨rfl, M15, Kb14⟩ := hQ15
  have N15 := Fr.app N0 M15
  refine Goes.on (fun t k => st15.trans k) ?_
  have E_16 := E_3.keep Kb14
  have F_17 := F_4.keep Kb14 (ninS ne_a1_b2 nin0)
  have F_18 := F_5.keep Kb14 (ninS ne_a1_b2 nin0)
  have F_19 := F_6.keep Kb14 (ninS ne_a1_b2 nin0)
  have F_20 := F_7.keep Kb14 (ninS ne_a1_b2 nin0)
  have F_21 := F_8.keep Kb14 (ninS ne_a1_b2 nin0)
  have F_22 := F_9.keep Kb14 (ninS ne_a1_b2 nin0)
  have F_23 := F_10.keep Kb14 (ninS ne_a1_b2 nin0)
  have O_24 := O_11.keep Kb14 (allS g_b2 all0)
  have A2_25 := A2.keep Kb14
  have K28 := K2.trans Kb14 (allS (Or.inr sz_b2) all0)
  show Goes p e below QQ (T15.setTop (mkF m 12 #[rv a1, rv a2] [(.ref b2), (.ref a1)]))
  obtain ⟨T29, h29, X29, e29, W29, st29⟩ := putF X15 hx hZ hown (host := "") (Or.inl (hw _ (List.mem_of_getElem? (i := 39) rfl))) Via.refl rfl F_17 E_16 (Or.inr ⟨(hw _ (List.mem_of_getElem? (i := 40) rfl)), rfl, hnm⟩) (hw _ (List.mem_of_getElem? (i := 2) rfl)) (ty := (.object "java/util/List")) (by decide) rfl rfl (g := (mkF m 12 #[rv a1, rv a2] [(.ref b2), (.ref a1)])) rfl rfl (hb hby d2_12)
  have E_30 := E_16.wr W29
  have F_31 := F_18.other W29 (Or.inr (slot_ne (Or.inr (hw _ (List.mem_of_getElem? (i := 42) rfl))) (Or.inr (hw _ (List.mem_of_getElem? (i := 40) rfl))) (by decide) (t := (.array .int)) (t' := (.object "java/util/List")) (by decide) (by decide)))
  have F_32 := F_19.other W29 (Or.inr (slot_ne (Or.inr (hw _ (List.mem_of_getElem? (i := 44) rfl))) (Or.inr (hw _ (List.mem_of_getElem? (i := 40) rfl))) (by decide) (t := (.array .int)) (t' := (.object "java/util/List")) (by decide) (by decide)))
  have F_33 := F_20.other W29 (Or.inr (slot_ne (Or.inr (hw _ (List.mem_of_getElem? (i := 46) rfl))) (Or.inr (hw _ (List.mem_of_getElem? (i := 40) rfl))) (by decide) (t := .int) (t' := (.object "java/util/List")) (by decide) (by decide)))
  have F_34 := F_21.other W29 (Or.inr (slot_ne (Or.inl (hw _ (List.mem_of_getElem? (i := 53) rfl))) (Or.inr (hw _ (List.mem_of_getElem? (i := 40) rfl))) (by decide) (t := .int) (t' := (.object "java/util/List")) (by decide) (by decide)))
  have F_35 := F_22.other W29 (Or.inr (slot_ne (Or.inl (hw _ (List.mem_of_getElem? (i := 55) rfl))) (Or.inr (hw _ (List.mem_of_getElem? (i := 40) rfl))) (by decide) (t := .int) (t' := (.object "java/util/List")) (by decide) (by decide)))
  have F_36 := F_23.other W29 (Or.inr (slot_ne (Or.inl (hw _ (List.mem_of_getElem? (i := 57) rfl))) (Or.inr (hw _ (List.mem_of_getElem? (i := 40) rfl))) (by decide) (t := .boolean) (t' := (.object "java/util/List")) (by decide) (by decide)))
  have O_37 := O_24.wr W29 g_a1
  have A2_38 := A2_25.wr W29
  have K29 := K28.wr W29 (Or.inl (List.mem_of_getElem? (i := 0) rfl))
  have N29 := Fr.snoc X29 N15 g_a1
  have F_39 : Fld Z h29 a1 "com/example/clew/clew/algebra/Step" "tests" "Ljava/util/List;" (.ref b2) := F_17.same W29
  refine Goes.on (fun t k => st29 t k) ?_
  show Goes p e below QQ (T29.setTop (mkF m 15 #[rv a1, rv a2] []))
  refine Goes.on (fun t k => XS.aloadN X29.here hx rfl (hb hby d2_15) rfl rfl k) ?_
  show Goes p e below QQ (T29.setTop (mkF m 16 #[rv a1, rv a2] [(.ref a1)]))
  refine Goes.on (fun t k => XS.aloadN X29.here hx rfl (hb hby d2_16) rfl rfl k) ?_
  show Goes p e below QQ (T29.setTop (mkF m 17 #[rv a1, rv a2] [(.ref a2), (.ref a1)]))
  obtain ⟨T40, h40, X40, e40, W40, st40⟩ := putF X29 hx hZ hown (host := "") (Or.inl (hw _ (List.mem_of_getElem? (i := 41) rfl))) Via.refl e29 F_31 E_30 (Or.inr ⟨(hw _ (List.mem_of_getElem? (i := 42) rfl)), rfl, hnm⟩) (hw _ (List.mem_of_getElem? (i := 2) rfl)) (ty := (.array .int)) (by decide) rfl rfl (g := (mkF m 17 #[rv a1, rv a2] [(.ref a2), (.ref a1)])) rfl rfl (hb hby d2_17)
  have E_41 := E_30.wr W40
  have F_42 := F_39.other W40 (Or.inr (slot_ne (Or.inr (hw _ (List.mem_of_getElem? (i := 40) rfl))) (Or.inr (hw _ (List.mem_of_getElem? (i := 42) rfl))) (by decide) (t := (.object "java/util/List")) (t' := (.array .int)) (by decide) (by decide)))
  have F_43 := F_32.other W40 (Or.inr (slot_ne (Or.inr (hw _ (List.mem_of_getElem? (i := 44) rfl))) (Or.inr (hw _ (List.mem_of_getElem? (i := 42) rfl))) (by decide) (t := (.array .int)) (t' := (.array .int)) (by decide) (by decide)))
  have F_44 := F_33.other W40 (Or.inr (slot_ne (Or.inr (hw _ (List.mem_of_getElem? (i := 46) rfl))) (Or.inr (hw _ (List.mem_of_getElem? (i := 42) rfl))) (by decide) (t := .int) (t' := (.array .int)) (by decide) (by decide)))
  have F_45 := F_34.other W40 (Or.inr (slot_ne (Or.inl (hw _ (List.mem_of_getElem? (i := 53) rfl))) (Or.inr (hw _ (List.mem_of_getElem? (i := 42) rfl))) (by decide) (t := .int) (t' := (.array .int)) (by decide) (by decide)))
  have F_46 := F_35.other W40 (Or.inr (slot_ne (Or.inl (hw _ (List.mem_of_getElem? (i := 55) rfl))) (Or.inr (hw _ (List.mem_of_getElem? (i := 42) rfl))) (by decide) (t := .int) (t' := (.array .int)) (by decide) (by decide)))
  have F_47 := F_36.other W40 (Or.inr (slot_ne (Or.inl (hw _ (List.mem_of_getElem? (i := 57) rfl))) (Or.inr (hw _ (List.mem_of_getElem? (i := 42) rfl))) (by decide) (t := .boolean) (t' := (.array .int)) (by decide) (by decide)))
  have O_48 := O_37.wr W40 g_a1
  have A2_49 := A2_38.wr W40
  have K40 := K29.wr W40 (Or.inl (List.mem_of_getElem? (i := 0) rfl))
  have N40 := Fr.snoc X40 N29 g_a1
  have F_50 : Fld Z h40 a1 "com/example/clew/clew/algebra/Step" "variables" "[I" (.ref a2) := F_31.same W40
  refine Goes.on (fun t k => st40 t k) ?_
  show Goes p e below QQ (T40.setTop (mkF m 20 #[rv a1, rv a2] []))
  exact Goes.rV X40 hx hret hlk (hb hby d2_20) hQQ (by rw [e40]; exact ⟨rfl, N40, K40, ⟨F_43, F_44, F_45, F_46, F_47⟩⟩) (by decide) (by decide)
theorem d1_0 : decode prog_53_method_1_code 0 = .ok (.aload_n 0, 1) := by decide +kernel
theorem d1_1 : decode prog_53_method_1_code 1 = .ok (.iconst 1, 1) := by decide +kernel
theorem d1_2 : decode prog_53_method_1_code 2 = .ok (.newarray .int, 2) := by decide +kernel
theorem d1_4 : decode prog_53_method_1_code 4 = .ok (.dup, 1) := by decide +kernel
theorem d1_5 : decode prog_53_method_1_code 5 = .ok (.iconst 0, 1) := by decide +kernel
theorem d1_6 : decode prog_53_method_1_code 6 = .ok (.iload_n 2, 1) := by decide +kernel
theorem d1_7 : decode prog_53_method_1_code 7 = .ok (.iastore, 1) := by decide +kernel
theorem d1_8 : decode prog_53_method_1_code 8 = .ok (.invokespecial 1, 3) := by decide +kernel
theorem d1_11 : decode prog_53_method_1_code 11 = .ok (.aload_n 0, 1) := by decide +kernel
theorem d1_12 : decode prog_53_method_1_code 12 = .ok (.aload_n 1, 1) := by decide +kernel
theorem d1_13 : decode prog_53_method_1_code 13 = .ok (.putfield 7, 3) := by decide +kernel
theorem d1_16 : decode prog_53_method_1_code 16 = .ok (.aload_n 0, 1) := by decide +kernel
theorem d1_17 : decode prog_53_method_1_code 17 = .ok (.iload_n 2, 1) := by decide +kernel
theorem d1_18 : decode prog_53_method_1_code 18 = .ok (.putfield 13, 3) := by decide +kernel
theorem d1_21 : decode prog_53_method_1_code 21 = .ok (.return_, 1) := by decide +kernel
theorem pn_1 : plainFor (⟨"com/example/clew/clew/algebra/Step$Members", "<init>", "([II)V"⟩ : MethodName) = true := plainFor_of_name (show plainName "com/example/clew/clew/algebra/Step$Members" = true by first | (simp [plainName, overriddenIn]; done) | decide +kernel)
theorem ef_rmMe (m : MethodId) (x0 : Addr) (x1 : Addr) (x2 : Int32) : entryFrame m #[(.ref x0), (.ref x1), (.int x2)] 3 = mkF m 0 #[rv x0, rv x1, iv x2] [] := by first | (simp [entryFrame, mkF, argsToLocals, Value.category]; done) | rfl
theorem pd_1 : parseMethodDescriptor "([I)V" = some ⟨[(.array .int)], none⟩ := by decide +kernel
set_option maxRecDepth 65536 in
set_option maxHeartbeats 40000000 in
theorem rmMe (l : Launch) (Z : State) (a0 : Array Value) (hw : ∀ d ∈ tables_1, d.before a0 Z = true) (ws : List Jvm.Cond) (a1 a2 : Addr) (p3 : Int32) (xD : Addr) (h0 : Heap) (n0 : Nat) (Z0 : n0 ≤ h0.size) (E_a1 : Exa Z h0 a1 "com/example/clew/clew/algebra/Step$Members") (F_tests_a1 : Fld Z h0 a1 "com/example/clew/clew/algebra/Step" "tests" "Ljava/util/List;" .null) (F_variables_a1 : Fld Z h0 a1 "com/example/clew/clew/algebra/Step" "variables" "[I" .null) (F_members_a1 : Fld Z h0 a1 "com/example/clew/clew/algebra/Step$Members" "members" "[I" .null) (F_variable_a1 : Fld Z h0 a1 "com/example/clew/clew/algebra/Step$Members" "variable" "I" (.int 0)) (F_next_a1 : Fld Z h0 a1 "com/example/clew/clew/algebra/Step$Members" "next" "I" (.int 0)) (F_end_a1 : Fld Z h0 a1 "com/example/clew/clew/algebra/Step$Members" "end" "I" (.int 0)) (F_bound_a1 : Fld Z h0 a1 "com/example/clew/clew/algebra/Step$Members" "bound" "Z" (.int 0)) (g_a1 : n0 ≤ a1) (S_DEFAULTCAPACITY_EMPTY_ELEMENTDATA : Sta Z Z.heap "java/util/ArrayList" "DEFAULTCAPACITY_EMPTY_ELEMENTDATA" "[Ljava/lang/Object;" (.ref xD)) (O_0 : Old Z n0 h0) :
    MetFree l (⟨"com/example/clew/clew/algebra/Step$Members", "<init>", "([II)V"⟩ : MethodName) (head1 (Jvm.Cond.code (⟨"com/example/clew/clew/algebra/Step$Members", "<init>", "([II)V"⟩ : MethodName) prog_53_method_1_code 3 none :: ws) ({ frames := 5, cells := 2, slots := 4, locals := 63 } : Room)) (fun a U => a = #[(.ref a1), (.ref a2), (.int p3)] ∧ Z.Warmed39 U.vm ∧ U.heap = h0) (fun _ _ _ _ _ => True) (fun _ U o U' => ∃ v L, o = .returned v ∧ QS Z a1 (.ref a2) p3 0 0 0 h0 n0 v U'.heap L ∧ FrameEnd U o U' L ({ frames := 5, cells := 2, slots := 4, locals := 63 } : Room).cells ({ frames := 5, cells := 2, slots := 4, locals := 63 } : Room).slots) := by
  refine own_enter pn_1 ?_
  intro p e s m below meth c s₁ QQ hQQ hx hby hml hown hnm hret hlk hZ X0 e0
  have hown : s.vm.findClass "com/example/clew/clew/algebra/Step$Members" = some m.cls := hown
  have hml : c.maxLocals = 3 := hml
  have hret : meth.sig.returnType = none := hret
  have N0 := Fr.nil n0
  have K0 := Keep.refl h0 [a1]
  refine Goes.cast (ef_rmMe m a1 a2 p3) ?_
  show Goes p e below QQ (s₁.setTop (mkF m 0 #[rv a1, rv a2, iv p3] []))
  refine Goes.on (fun t k => XS.aloadN X0.here hx rfl (hb hby d1_0) rfl rfl k) ?_
  show Goes p e below QQ (s₁.setTop (mkF m 1 #[rv a1, rv a2, iv p3] [(.ref a1)]))
  refine Goes.on (fun t k => XS.iconst X0.here hx rfl (hb hby d1_1) k) ?_
  show Goes p e below QQ (s₁.setTop (mkF m 2 #[rv a1, rv a2, iv p3] [(.int 1), (.ref a1)]))
  obtain ⟨T1, h1, k1, X1, e1, E1, A1, st1⟩ := newP X0 hx hZ (hw _ (List.mem_of_getElem? (i := 0) rfl)) e0 (g := (mkF m 2 #[rv a1, rv a2, iv p3] [(.int 1), (.ref a1)])) rfl (hb hby d1_2) rfl (by decide) (cap := 1) (by decide) (by decide) (by decide) (by decide)
  obtain ⟨b1, g1⟩ : ∃ z, z = h0.size := ⟨_, rfl⟩
  rw [← g1] at A1 st1
  have sz_b1 : h0.size ≤ b1 := Nat.le_trans K0.1 (Nat.le_of_eq g1.symm)
  have g_b1 : n0 ≤ b1 := Nat.le_trans Z0 sz_b1
  have ne_a1_b1 : a1 ≠ b1 := Nat.ne_of_lt (Nat.lt_of_lt_of_le E_a1.lt (Nat.le_of_eq g1.symm))
  have E_2 := E_a1.ext E1
  have F_3 := F_tests_a1.ext E1
  have F_4 := F_variables_a1.ext E1
  have F_5 := F_members_a1.ext E1
  have F_6 := F_variable_a1.ext E1
  have F_7 := F_next_a1.ext E1
  have F_8 := F_end_a1.ext E1
  have F_9 := F_bound_a1.ext E1
  have O_10 := O_0.ext E1
  have K1 := K0.ext E1
  have V_11 : Arv Z h1 b1 k1 .int (1 : Int32) [(.int 0)] (.int 0) := (Arv.new A1 (by decide)).pad (pad_rep [] (.int 0) 1)
  refine Goes.on (fun t k => st1 t k) ?_
  show Goes p e below QQ (T1.setTop (mkF m 4 #[rv a1, rv a2, iv p3] [(.ref b1), (.ref a1)]))
  refine Goes.on (fun t k => XS.dup X1.here hx rfl (hb hby d1_4) rfl rfl k) ?_
  show Goes p e below QQ (T1.setTop (mkF m 5 #[rv a1, rv a2, iv p3] [(.ref b1), (.ref b1), (.ref a1)]))
  refine Goes.on (fun t k => XS.iconst X1.here hx rfl (hb hby d1_5) k) ?_
  show Goes p e below QQ (T1.setTop (mkF m 6 #[rv a1, rv a2, iv p3] [(.int 0), (.ref b1), (.ref b1), (.ref a1)]))
  refine Goes.on (fun t k => XS.iloadN X1.here hx rfl (hb hby d1_6) rfl k) ?_
  show Goes p e below QQ (T1.setTop (mkF m 7 #[rv a1, rv a2, iv p3] [(.int p3), (.int 0), (.ref b1), (.ref b1), (.ref a1)]))
  obtain ⟨cl12, Ar12, aq12, aS12, aN12, aH12, aG12⟩ := id V_11
  have hin12 := inb_of (j := (0 : Int32)) aS12 ⟨by decide, by decide⟩
  obtain ⟨T13, h13, X13, e13, W13, st13⟩ := stI X1 hx hZ e1 Ar12 (j := (0 : Int32)) hin12 (g := (mkF m 7 #[rv a1, rv a2, iv p3] [(.int p3), (.int 0), (.ref b1), (.ref b1), (.ref a1)])) rfl rfl (hb hby d1_7)
  have E_14 := E_2.wr W13
  have F_15 := F_3.other W13 (Or.inl ne_a1_b1)
  have F_16 := F_4.other W13 (Or.inl ne_a1_b1)
  have F_17 := F_5.other W13 (Or.inl ne_a1_b1)
  have F_18 := F_6.other W13 (Or.inl ne_a1_b1)
  have F_19 := F_7.other W13 (Or.inl ne_a1_b1)
  have F_20 := F_8.other W13 (Or.inl ne_a1_b1)
  have F_21 := F_9.other W13 (Or.inl ne_a1_b1)
  have O_22 := O_10.wr W13 g_b1
  have K13 := K1.wr W13 (Or.inr sz_b1)
  have N13 := Fr.snoc X13 N0 g_b1
  have V_23 : Arv Z h13 b1 k1 .int (1 : Int32) [(.int p3)] (.int 0) := Arv.set Ar12 aq12 aS12 aN12 aH12 aG12 rfl W13 0 rfl (Nat.le_of_ble_eq_true rfl)
  refine Goes.on (fun t k => st13 t k) ?_
  show Goes p e below QQ (T13.setTop (mkF m 8 #[rv a1, rv a2, iv p3] [(.ref b1), (.ref a1)]))
  obtain ⟨_, _, ⟨T24, L24, k24, n24⟩, -, X24, ⟨Lc24, hQ24, l24, y24, z24⟩, st24⟩ := X13.specialBack hx (y := (⟨"com/example/clew/clew/algebra/Step", "<init>", "([I)V"⟩ : MethodName)) rfl hown (mvT hZ (hw _ (List.mem_of_getElem? (i := 7) rfl))) (mvT hZ (hw _ (List.mem_of_getElem? (i := 8) rfl))) (mvT hZ (hw _ (List.mem_of_getElem? (i := 11) rfl))) (by decide) (backOf (W := 0) (rmSt l Z a0 hw [] a1 b1 xD h13 n0 (Nat.le_trans Z0 K13.1) E_14 F_15 F_16 F_17 F_18 F_19 F_20 F_21 g_a1 S_DEFAULTCAPACITY_EMPTY_ELEMENTDATA O_22) hZ (hw _ (List.mem_of_getElem? (i := 11) rfl)) (hw _ (List.mem_of_getElem? (i := 10) rfl)) (by decide) (by decide)) (g := (mkF m 8 #[rv a1, rv a2, iv p3] [(.ref b1), (.ref a1)])) rfl (by rw [hml]; rfl) (Steps.refl _) (a := a1) (argsL := [(.ref b1)]) (rest := []) (lenOf pd_1 rfl) rfl (by show 2 * 0 + _ ≤ _; exact Nat.le_of_eq rfl) (hb hby d1_8) (fun _ _ => ⟨rfl, e13, (by decide : 1 + 1 ≤ _), (by decide : 1 + 3 ≤ _)⟩)
  dsimp only [Pt.U, Pt.locs, Pt.cells, Pt.slots] at X24 l24 y24 z24 st24 hQ24
  subst l24 y24 z24
  obtain ⟨rfl, M24, Kb, ⟨members_s, variable_s, next_s, end_s, bound_s⟩⟩ := hQ24
  have N24 := Fr.app N13 M24
  refine Goes.on (fun t k => st24.trans k) ?_
  have E_25 := E_14.keep Kb
  have O_33 := O_22.keep Kb (allS g_a1 all0)
  have V_34 := V_23.keep Kb (ninS (Ne.symm ne_a1_b1) nin0)
  have K35 := K13.trans Kb (allS (Or.inl (List.mem_of_getElem? (i := 0) rfl)) all0)
  show Goes p e below QQ (T24.setTop (mkF m 11 #[rv a1, rv a2, iv p3] []))
  refine Goes.on (fun t k => XS.aloadN X24.here hx rfl (hb hby d1_11) rfl rfl k) ?_
  show Goes p e below QQ (T24.setTop (mkF m 12 #[rv a1, rv a2, iv p3] [(.ref a1)]))
  refine Goes.on (fun t k => XS.aloadN X24.here hx rfl (hb hby d1_12) rfl rfl k) ?_
  show Goes p e below QQ (T24.setTop (mkF m 13 #[rv a1, rv a2, iv p3] [(.ref a2), (.ref a1)]))
  obtain ⟨T36, h36, X36, e36, W36, st36⟩ := putF X24 hx hZ hown (host := "") (Or.inl (hw _ (List.mem_of_getElem? (i := 43) rfl))) Via.refl rfl members_s E_25 (Or.inr ⟨(hw _ (List.mem_of_getElem? (i := 44) rfl)), rfl, hnm⟩) (hw _ (List.mem_of_getElem? (i := 2) rfl)) (ty := (.array .int)) (by decide) rfl rfl (g := (mkF m 13 #[rv a1, rv a2, iv p3] [(.ref a2), (.ref a1)])) rfl rfl (hb hby d1_13)
  have E_37 := E_25.wr W36
  have O_38 := O_33.wr W36 g_a1
  have V_39 := V_34.other W36 (Ne.symm ne_a1_b1)
  have variable_40 := variable_s.other W36 (Or.inr (slot_ne (Or.inr (hw _ (List.mem_of_getElem? (i := 46) rfl))) (Or.inr (hw _ (List.mem_of_getElem? (i := 44) rfl))) (by decide) (t := .int) (t' := (.array .int)) (by decide) (by decide)))
  have next_41 := next_s.other W36 (Or.inr (slot_ne (Or.inl (hw _ (List.mem_of_getElem? (i := 53) rfl))) (Or.inr (hw _ (List.mem_of_getElem? (i := 44) rfl))) (by decide) (t := .int) (t' := (.array .int)) (by decide) (by decide)))
  have end_42 := end_s.other W36 (Or.inr (slot_ne (Or.inl (hw _ (List.mem_of_getElem? (i := 55) rfl))) (Or.inr (hw _ (List.mem_of_getElem? (i := 44) rfl))) (by decide) (t := .int) (t' := (.array .int)) (by decide) (by decide)))
  have bound_43 := bound_s.other W36 (Or.inr (slot_ne (Or.inl (hw _ (List.mem_of_getElem? (i := 57) rfl))) (Or.inr (hw _ (List.mem_of_getElem? (i := 44) rfl))) (by decide) (t := .boolean) (t' := (.array .int)) (by decide) (by decide)))
  have K36 := K35.wr W36 (Or.inl (List.mem_of_getElem? (i := 0) rfl))
  have N36 := Fr.snoc X36 N24 g_a1
  have F_44 : Fld Z h36 a1 "com/example/clew/clew/algebra/Step$Members" "members" "[I" (.ref a2) := members_s.same W36
  refine Goes.on (fun t k => st36 t k) ?_
  show Goes p e below QQ (T36.setTop (mkF m 16 #[rv a1, rv a2, iv p3] []))
  refine Goes.on (fun t k => XS.aloadN X36.here hx rfl (hb hby d1_16) rfl rfl k) ?_
  show Goes p e below QQ (T36.setTop (mkF m 17 #[rv a1, rv a2, iv p3] [(.ref a1)]))
  refine Goes.on (fun t k => XS.iloadN X36.here hx rfl (hb hby d1_17) rfl k) ?_
  show Goes p e below QQ (T36.setTop (mkF m 18 #[rv a1, rv a2, iv p3] [(.int p3), (.ref a1)]))
  obtain ⟨T45, h45, X45, e45, W45, st45⟩ := putF X36 hx hZ hown (host := "") (Or.inl (hw _ (List.mem_of_getElem? (i := 45) rfl))) Via.refl e36 variable_40 E_37 (Or.inr ⟨(hw _ (List.mem_of_getElem? (i := 46) rfl)), rfl, hnm⟩) (hw _ (List.mem_of_getElem? (i := 2) rfl)) (ty := .int) (by decide) rfl rfl (g := (mkF m 18 #[rv a1, rv a2, iv p3] [(.int p3), (.ref a1)])) rfl rfl (hb hby d1_18)
  have E_46 := E_37.wr W45
  have O_47 := O_38.wr W45 g_a1
  have V_48 := V_39.other W45 (Ne.symm ne_a1_b1)
  have F_49 := F_44.other W45 (Or.inr (slot_ne (Or.inr (hw _ (List.mem_of_getElem? (i := 44) rfl))) (Or.inr (hw _ (List.mem_of_getElem? (i := 46) rfl))) (by decide) (t := (.array .int)) (t' := .int) (by decide) (by decide)))
  have next_50 := next_41.other W45 (Or.inr (slot_ne (Or.inl (hw _ (List.mem_of_getElem? (i := 53) rfl))) (Or.inr (hw _ (List.mem_of_getElem? (i := 46) rfl))) (by decide) (t := .int) (t' := .int) (by decide) (by decide)))
  have end_51 := end_42.other W45 (Or.inr (slot_ne (Or.inl (hw _ (List.mem_of_getElem? (i := 55) rfl))) (Or.inr (hw _ (List.mem_of_getElem? (i := 46) rfl))) (by decide) (t := .int) (t' := .int) (by decide) (by decide)))
  have bound_52 := bound_43.other W45 (Or.inr (slot_ne (Or.inl (hw _ (List.mem_of_getElem? (i := 57) rfl))) (Or.inr (hw _ (List.mem_of_getElem? (i := 46) rfl))) (by decide) (t := .boolean) (t' := .int) (by decide) (by decide)))
  have K45 := K36.wr W45 (Or.inl (List.mem_of_getElem? (i := 0) rfl))
  have N45 := Fr.snoc X45 N36 g_a1
  have F_53 : Fld Z h45 a1 "com/example/clew/clew/algebra/Step$Members" "variable" "I" (.int p3) := variable_40.same W45
  refine Goes.on (fun t k => st45 t k) ?_
  show Goes p e below QQ (T45.setTop (mkF m 21 #[rv a1, rv a2, iv p3] []))
  exact Goes.rV X45 hx hret hlk (hb hby d1_21) hQQ (by rw [e45]; exact ⟨rfl, N45, K45, ⟨F_49, F_53, next_50, end_51, bound_52⟩⟩) (by decide) (by decide)
theorem d7_0 : decode prog_53_method_4_code 0 = .ok (.aload_n 0, 1) := by decide +kernel
theorem d7_1 : decode prog_53_method_4_code 1 = .ok (.iconst 0, 1) := by decide +kernel
theorem d7_2 : decode prog_53_method_4_code 2 = .ok (.putfield 27, 3) := by decide +kernel
theorem d7_5 : decode prog_53_method_4_code 5 = .ok (.aload_n 0, 1) := by decide +kernel
theorem d7_6 : decode prog_53_method_4_code 6 = .ok (.aload_n 0, 1) := by decide +kernel
theorem d7_7 : decode prog_53_method_4_code 7 = .ok (.getfield 7, 3) := by decide +kernel
theorem d7_10 : decode prog_53_method_4_code 10 = .ok (.arraylength, 1) := by decide +kernel
theorem d7_11 : decode prog_53_method_4_code 11 = .ok (.putfield 30, 3) := by decide +kernel
theorem d7_14 : decode prog_53_method_4_code 14 = .ok (.aload_n 0, 1) := by decide +kernel
theorem d7_15 : decode prog_53_method_4_code 15 = .ok (.getfield 23, 3) := by decide +kernel
theorem d7_18 : decode prog_53_method_4_code 18 = .ok (.ifCond .eq 28, 3) := by decide +kernel
theorem d7_21 : decode prog_53_method_4_code 21 = .ok (.aload_n 0, 1) := by decide +kernel
theorem d7_22 : decode prog_53_method_4_code 22 = .ok (.aload_n 0, 1) := by decide +kernel
theorem d7_23 : decode prog_53_method_4_code 23 = .ok (.getfield 7, 3) := by decide +kernel
theorem d7_26 : decode prog_53_method_4_code 26 = .ok (.aload_n 1, 1) := by decide +kernel
theorem d7_27 : decode prog_53_method_4_code 27 = .ok (.aload_n 0, 1) := by decide +kernel
theorem d7_28 : decode prog_53_method_4_code 28 = .ok (.getfield 13, 3) := by decide +kernel
theorem d7_31 : decode prog_53_method_4_code 31 = .ok (.iaload, 1) := by decide +kernel
theorem d7_32 : decode prog_53_method_4_code 32 = .ok (.invokestatic 33, 3) := by decide +kernel
theorem d7_35 : decode prog_53_method_4_code 35 = .ok (.ifCond .lt 7, 3) := by decide +kernel
theorem d7_38 : decode prog_53_method_4_code 38 = .ok (.iconst 1, 1) := by decide +kernel
theorem d7_39 : decode prog_53_method_4_code 39 = .ok (.goto 4, 3) := by decide +kernel
theorem d7_42 : decode prog_53_method_4_code 42 = .ok (.iconst 0, 1) := by decide +kernel
theorem d7_43 : decode prog_53_method_4_code 43 = .ok (.putfield 30, 3) := by decide +kernel
theorem d7_46 : decode prog_53_method_4_code 46 = .ok (.return_, 1) := by decide +kernel
theorem pn_7 : plainFor (⟨"com/example/clew/clew/algebra/Step$Members", "start", "([I)V"⟩ : MethodName) = true := plainFor_of_name (show plainName "com/example/clew/clew/algebra/Step$Members" = true by first | (simp [plainName, overriddenIn]; done) | decide +kernel)
theorem ef_rmSa (m : MethodId) (x0 : Addr) (x1 : Addr) : entryFrame m #[(.ref x0), (.ref x1)] 2 = mkF m 0 #[rv x0, rv x1] [] := by first | (simp [entryFrame, mkF, argsToLocals, Value.category]; done) | rfl
set_option maxRecDepth 65536 in
set_option maxHeartbeats 40000000 in
theorem rmSa (l : Launch) (Z : State) (a0 : Array Value) (hw : ∀ d ∈ tables_1, d.before a0 Z = true) (ws : List Jvm.Cond) (a1 a2 b1 : Addr) (p3 : Int32) (kk : ClassId) (zz : Int32) (vs : List Value) (h0 : Heap) (n0 : Nat) (Z0 : n0 ≤ h0.size) (E_a1 : Exa Z h0 a1 "com/example/clew/clew/algebra/Step$Members") (F_members_a1 : Fld Z h0 a1 "com/example/clew/clew/algebra/Step$Members" "members" "[I" (.ref b1)) (F_variable_a1 : Fld Z h0 a1 "com/example/clew/clew/algebra/Step$Members" "variable" "I" (.int p3)) (F_next_a1 : Fld Z h0 a1 "com/example/clew/clew/algebra/Step$Members" "next" "I" (.int 0)) (F_end_a1 : Fld Z h0 a1 "com/example/clew/clew/algebra/Step$Members" "end" "I" (.int 0)) (F_bound_a1 : Fld Z h0 a1 "com/example/clew/clew/algebra/Step$Members" "bound" "Z" (.int 0)) (V_b1 : Arv Z h0 b1 kk .int zz vs (.int 0)) (g_a1 : n0 ≤ a1) (ne_b1_a1 : b1 ≠ a1) :
    MetFree l (⟨"com/example/clew/clew/algebra/Step$Members", "start", "([I)V"⟩ : MethodName) (head1 (Jvm.Cond.code (⟨"com/example/clew/clew/algebra/Step$Members", "start", "([I)V"⟩ : MethodName) prog_53_method_4_code 2 none :: ws) ({ frames := 0, cells := 0, slots := 0, locals := 0 } : Room)) (fun a U => a = #[(.ref a1), (.ref a2)] ∧ Z.Warmed39 U.vm ∧ U.heap = h0) (fun _ _ _ _ _ => True) (fun _ U o U' => ∃ v L, o = .returned v ∧ QS Z a1 (.ref b1) p3 0 zz 0 h0 n0 v U'.heap L ∧ FrameEnd U o U' L ({ frames := 0, cells := 0, slots := 0, locals := 0 } : Room).cells ({ frames := 0, cells := 0, slots := 0, locals := 0 } : Room).slots) := by
  refine own_enter pn_7 ?_
  intro p e s m below meth c s₁ QQ hQQ hx hby hml hown hnm hret hlk hZ X0 e0
  have hown : s.vm.findClass "com/example/clew/clew/algebra/Step$Members" = some m.cls := hown
  have hml : c.maxLocals = 2 := hml
  have hret : meth.sig.returnType = none := hret
  have N0 := Fr.nil n0
  have K0 := Keep.refl h0 [a1]
  refine Goes.cast (ef_rmSa m a1 a2) ?_
  show Goes p e below QQ (s₁.setTop (mkF m 0 #[rv a1, rv a2] []))
  refine Goes.on (fun t k => XS.aloadN X0.here hx rfl (hb hby d7_0) rfl rfl k) ?_
  show Goes p e below QQ (s₁.setTop (mkF m 1 #[rv a1, rv a2] [(.ref a1)]))
  refine Goes.on (fun t k => XS.iconst X0.here hx rfl (hb hby d7_1) k) ?_
  show Goes p e below QQ (s₁.setTop (mkF m 2 #[rv a1, rv a2] [(.int 0), (.ref a1)]))
  obtain ⟨T1, h1, X1, e1, W1, st1⟩ := putF X0 hx hZ hown (host := "") (Or.inl (hw _ (List.mem_of_getElem? (i := 52) rfl))) Via.refl e0 F_next_a1 E_a1 (Or.inl (hw _ (List.mem_of_getElem? (i := 53) rfl))) (hw _ (List.mem_of_getElem? (i := 2) rfl)) (ty := .int) (by decide) rfl rfl (g := (mkF m 2 #[rv a1, rv a2] [(.int 0), (.ref a1)])) rfl rfl (hb hby d7_2)
  have E_2 := E_a1.wr W1
  have F_3 := F_members_a1.other W1 (Or.inr (slot_ne (Or.inr (hw _ (List.mem_of_getElem? (i := 44) rfl))) (Or.inl (hw _ (List.mem_of_getElem? (i := 53) rfl))) (by decide) (t := (.array .int)) (t' := .int) (by decide) (by decide)))
  have F_4 := F_variable_a1.other W1 (Or.inr (slot_ne (Or.inr (hw _ (List.mem_of_getElem? (i := 46) rfl))) (Or.inl (hw _ (List.mem_of_getElem? (i := 53) rfl))) (by decide) (t := .int) (t' := .int) (by decide) (by decide)))
  have F_5 := F_end_a1.other W1 (Or.inr (slot_ne (Or.inl (hw _ (List.mem_of_getElem? (i := 55) rfl))) (Or.inl (hw _ (List.mem_of_getElem? (i := 53) rfl))) (by decide) (t := .int) (t' := .int) (by decide) (by decide)))
  have F_6 := F_bound_a1.other W1 (Or.inr (slot_ne (Or.inl (hw _ (List.mem_of_getElem? (i := 57) rfl))) (Or.inl (hw _ (List.mem_of_getElem? (i := 53) rfl))) (by decide) (t := .boolean) (t' := .int) (by decide) (by decide)))
  have V_7 := V_b1.other W1 ne_b1_a1
  have K1 := K0.wr W1 (Or.inl (List.mem_of_getElem? (i := 0) rfl))
  have N1 := Fr.snoc X1 N0 g_a1
  have F_8 : Fld Z h1 a1 "com/example/clew/clew/algebra/Step$Members" "next" "I" (.int 0) := F_next_a1.same W1
  refine Goes.on (fun t k => st1 t k) ?_
  show Goes p e below QQ (T1.setTop (mkF m 5 #[rv a1, rv a2] []))
  refine Goes.on (fun t k => XS.aloadN X1.here hx rfl (hb hby d7_5) rfl rfl k) ?_
  show Goes p e below QQ (T1.setTop (mkF m 6 #[rv a1, rv a2] [(.ref a1)]))
  refine Goes.on (fun t k => XS.aloadN X1.here hx rfl (hb hby d7_6) rfl rfl k) ?_
  show Goes p e below QQ (T1.setTop (mkF m 7 #[rv a1, rv a2] [(.ref a1), (.ref a1)]))
  obtain ⟨T9, X9, e9, st9⟩ := getF X1 hx hZ hown (host := "") (Or.inl (hw _ (List.mem_of_getElem? (i := 43) rfl))) Via.refl e1 F_3 (g := (mkF m 7 #[rv a1, rv a2] [(.ref a1), (.ref a1)])) rfl rfl (hb hby d7_7)
  refine Goes.on (fun t k => st9 t k) ?_
  show Goes p e below QQ (T9.setTop (mkF m 10 #[rv a1, rv a2] [(.ref b1), (.ref a1)]))
  obtain ⟨cl10, Ar10, aq10, aS10, aN10, aH10, aG10⟩ := id V_7
  refine Goes.on (fun t k => X9.arraylength hx (by rw [e9]; exact Ar10.1) (State.isArrayOf_alike hZ.alike Ar10.2.1) (g := (mkF m 10 #[rv a1, rv a2] [(.ref b1), (.ref a1)])) rfl rfl (hb hby d7_10) t k) ?_
  rw [len_of aS10 aN10]
  show Goes p e below QQ (T9.setTop (mkF m 11 #[rv a1, rv a2] [(.int zz), (.ref a1)]))
  obtain ⟨T11, h11, X11, e11, W11, st11⟩ := putF X9 hx hZ hown (host := "") (Or.inl (hw _ (List.mem_of_getElem? (i := 54) rfl))) Via.refl e9 F_5 E_2 (Or.inl (hw _ (List.mem_of_getElem? (i := 55) rfl))) (hw _ (List.mem_of_getElem? (i := 2) rfl)) (ty := .int) (by decide) rfl rfl (g := (mkF m 11 #[rv a1, rv a2] [(.int zz), (.ref a1)])) rfl rfl (hb hby d7_11)
  have E_12 := E_2.wr W11
  have F_13 := F_3.other W11 (Or.inr (slot_ne (Or.inr (hw _ (List.mem_of_getElem? (i := 44) rfl))) (Or.inl (hw _ (List.mem_of_getElem? (i := 55) rfl))) (by decide) (t := (.array .int)) (t' := .int) (by decide) (by decide)))
  have F_14 := F_4.other W11 (Or.inr (slot_ne (Or.inr (hw _ (List.mem_of_getElem? (i := 46) rfl))) (Or.inl (hw _ (List.mem_of_getElem? (i := 55) rfl))) (by decide) (t := .int) (t' := .int) (by decide) (by decide)))
  have F_15 := F_8.other W11 (Or.inr (slot_ne (Or.inl (hw _ (List.mem_of_getElem? (i := 53) rfl))) (Or.inl (hw _ (List.mem_of_getElem? (i := 55) rfl))) (by decide) (t := .int) (t' := .int) (by decide) (by decide)))
  have F_16 := F_6.other W11 (Or.inr (slot_ne (Or.inl (hw _ (List.mem_of_getElem? (i := 57) rfl))) (Or.inl (hw _ (List.mem_of_getElem? (i := 55) rfl))) (by decide) (t := .boolean) (t' := .int) (by decide) (by decide)))
  have V_17 := V_7.other W11 ne_b1_a1
  have K11 := K1.wr W11 (Or.inl (List.mem_of_getElem? (i := 0) rfl))
  have N11 := Fr.snoc X11 N1 g_a1
  have F_18 : Fld Z h11 a1 "com/example/clew/clew/algebra/Step$Members" "end" "I" (.int zz) := F_5.same W11
  refine Goes.on (fun t k => st11 t k) ?_
  show Goes p e below QQ (T11.setTop (mkF m 14 #[rv a1, rv a2] []))
  refine Goes.on (fun t k => XS.aloadN X11.here hx rfl (hb hby d7_14) rfl rfl k) ?_
  show Goes p e below QQ (T11.setTop (mkF m 15 #[rv a1, rv a2] [(.ref a1)]))
  obtain ⟨T19, X19, e19, st19⟩ := getF X11 hx hZ hown (host := "") (Or.inl (hw _ (List.mem_of_getElem? (i := 56) rfl))) Via.refl e11 F_16 (g := (mkF m 15 #[rv a1, rv a2] [(.ref a1)])) rfl rfl (hb hby d7_15)
  refine Goes.on (fun t k => st19 t k) ?_
  show Goes p e below QQ (T19.setTop (mkF m 18 #[rv a1, rv a2] [(.int 0)]))
  refine Goes.on (fun t k => XS.ifYes X19.here hx rfl (pc0 := 18) (pc' := 46) rfl (hb hby d7_18) rfl ((if0 _ _).trans (teq rfl).1) (by decide) (by decide) k) ?_
  show Goes p e below QQ (T19.setTop (mkF m 46 #[rv a1, rv a2] []))
  exact Goes.rV X19 hx hret hlk (hb hby d7_46) hQQ (by rw [e19]; exact ⟨rfl, N11, K11, ⟨F_13, F_14, F_15, F_18, F_16⟩⟩) (by decide) (by decide)
theorem d8_0 : decode prog_53_method_5_code 0 = .ok (.aload_n 0, 1) := by decide +kernel
theorem d8_1 : decode prog_53_method_5_code 1 = .ok (.getfield 27, 3) := by decide +kernel
theorem d8_4 : decode prog_53_method_5_code 4 = .ok (.aload_n 0, 1) := by decide +kernel
theorem d8_5 : decode prog_53_method_5_code 5 = .ok (.getfield 30, 3) := by decide +kernel
theorem d8_8 : decode prog_53_method_5_code 8 = .ok (.if_icmp .ne 5, 3) := by decide +kernel
theorem d8_11 : decode prog_53_method_5_code 11 = .ok (.iconst 0, 1) := by decide +kernel
theorem d8_12 : decode prog_53_method_5_code 12 = .ok (.ireturn, 1) := by decide +kernel
theorem d8_13 : decode prog_53_method_5_code 13 = .ok (.aload_n 0, 1) := by decide +kernel
theorem d8_14 : decode prog_53_method_5_code 14 = .ok (.getfield 23, 3) := by decide +kernel
theorem d8_17 : decode prog_53_method_5_code 17 = .ok (.ifCond .ne 18, 3) := by decide +kernel
theorem d8_20 : decode prog_53_method_5_code 20 = .ok (.aload_n 1, 1) := by decide +kernel
theorem d8_21 : decode prog_53_method_5_code 21 = .ok (.aload_n 0, 1) := by decide +kernel
theorem d8_22 : decode prog_53_method_5_code 22 = .ok (.getfield 13, 3) := by decide +kernel
theorem d8_25 : decode prog_53_method_5_code 25 = .ok (.aload_n 0, 1) := by decide +kernel
theorem d8_26 : decode prog_53_method_5_code 26 = .ok (.getfield 7, 3) := by decide +kernel
theorem d8_29 : decode prog_53_method_5_code 29 = .ok (.aload_n 0, 1) := by decide +kernel
theorem d8_30 : decode prog_53_method_5_code 30 = .ok (.getfield 27, 3) := by decide +kernel
theorem d8_33 : decode prog_53_method_5_code 33 = .ok (.iaload, 1) := by decide +kernel
theorem d8_34 : decode prog_53_method_5_code 34 = .ok (.iastore, 1) := by decide +kernel
theorem d8_35 : decode prog_53_method_5_code 35 = .ok (.aload_n 0, 1) := by decide +kernel
theorem d8_36 : decode prog_53_method_5_code 36 = .ok (.dup, 1) := by decide +kernel
theorem d8_37 : decode prog_53_method_5_code 37 = .ok (.getfield 27, 3) := by decide +kernel
theorem d8_40 : decode prog_53_method_5_code 40 = .ok (.iconst 1, 1) := by decide +kernel
theorem d8_41 : decode prog_53_method_5_code 41 = .ok (.iadd, 1) := by decide +kernel
theorem d8_42 : decode prog_53_method_5_code 42 = .ok (.putfield 27, 3) := by decide +kernel
theorem d8_45 : decode prog_53_method_5_code 45 = .ok (.iconst 1, 1) := by decide +kernel
theorem d8_46 : decode prog_53_method_5_code 46 = .ok (.ireturn, 1) := by decide +kernel
theorem pn_8 : plainFor (⟨"com/example/clew/clew/algebra/Step$Members", "advance", "([I)Z"⟩ : MethodName) = true := plainFor_of_name (show plainName "com/example/clew/clew/algebra/Step$Members" = true by first | (simp [plainName, overriddenIn]; done) | decide +kernel)
theorem ef_rmNo (m : MethodId) (x0 : Addr) (x1 : Addr) : entryFrame m #[(.ref x0), (.ref x1)] 2 = mkF m 0 #[rv x0, rv x1] [] := by first | (simp [entryFrame, mkF, argsToLocals, Value.category]; done) | rfl
set_option maxRecDepth 65536 in
set_option maxHeartbeats 40000000 in
theorem rmNo (l : Launch) (Z : State) (a0 : Array Value) (hw : ∀ d ∈ tables_1, d.before a0 Z = true) (ws : List Jvm.Cond) (a1 a2 : Addr) (p1 : Int32) (h0 : Heap) (n0 : Nat) (Z0 : n0 ≤ h0.size) (F_next_a1 : Fld Z h0 a1 "com/example/clew/clew/algebra/Step$Members" "next" "I" (.int p1)) (F_end_a1 : Fld Z h0 a1 "com/example/clew/clew/algebra/Step$Members" "end" "I" (.int p1)) :
    MetFree l (⟨"com/example/clew/clew/algebra/Step$Members", "advance", "([I)Z"⟩ : MethodName) (head1 (Jvm.Cond.code (⟨"com/example/clew/clew/algebra/Step$Members", "advance", "([I)Z"⟩ : MethodName) prog_53_method_5_code 2 (some .boolean) :: ws) ({ frames := 0, cells := 0, slots := 0, locals := 0 } : Room)) (fun a U => a = #[(.ref a1), (.ref a2)] ∧ Z.Warmed39 U.vm ∧ U.heap = h0) (fun _ _ _ _ _ => True) (fun _ U o U' => ∃ v L, o = .returned v ∧ QP (.int (0 : Int32)) h0 n0 v U'.heap L ∧ FrameEnd U o U' L ({ frames := 0, cells := 0, slots := 0, locals := 0 } : Room).cells ({ frames := 0, cells := 0, slots := 0, locals := 0 } : Room).slots) := by
  refine own_enter pn_8 ?_
  intro p e s m below meth c s₁ QQ hQQ hx hby hml hown hnm hret hlk hZ X0 e0
  have hown : s.vm.findClass "com/example/clew/clew/algebra/Step$Members" = some m.cls := hown
  have hml : c.maxLocals = 2 := hml
  have hret : meth.sig.returnType = some .boolean := hret
  have N0 := Fr.nil n0
  have K0 := Keep.refl h0 []
  refine Goes.cast (ef_rmNo m a1 a2) ?_
  show Goes p e below QQ (s₁.setTop (mkF m 0 #[rv a1, rv a2] []))
  refine Goes.on (fun t k => XS.aloadN X0.here hx rfl (hb hby d8_0) rfl rfl k) ?_
  show Goes p e below QQ (s₁.setTop (mkF m 1 #[rv a1, rv a2] [(.ref a1)]))
  obtain ⟨T1, X1, e1, st1⟩ := getF X0 hx hZ hown (host := "") (Or.inl (hw _ (List.mem_of_getElem? (i := 52) rfl))) Via.refl e0 F_next_a1 (g := (mkF m 1 #[rv a1, rv a2] [(.ref a1)])) rfl rfl (hb hby d8_1)
  refine Goes.on (fun t k => st1 t k) ?_
  show Goes p e below QQ (T1.setTop (mkF m 4 #[rv a1, rv a2] [(.int p1)]))
  refine Goes.on (fun t k => XS.aloadN X1.here hx rfl (hb hby d8_4) rfl rfl k) ?_
  show Goes p e below QQ (T1.setTop (mkF m 5 #[rv a1, rv a2] [(.ref a1), (.int p1)]))
  obtain ⟨T2, X2, e2, st2⟩ := getF X1 hx hZ hown (host := "") (Or.inl (hw _ (List.mem_of_getElem? (i := 54) rfl))) Via.refl e1 F_end_a1 (g := (mkF m 5 #[rv a1, rv a2] [(.ref a1), (.int p1)])) rfl rfl (hb hby d8_5)
  refine Goes.on (fun t k => st2 t k) ?_
  show Goes p e below QQ (T2.setTop (mkF m 8 #[rv a1, rv a2] [(.int p1), (.int p1)]))
  refine Goes.on (fun t k => XS.icmpNo X2.here hx rfl (hb hby d8_8) rfl (teq rfl).2 k) ?_
  show Goes p e below QQ (T2.setTop (mkF m 11 #[rv a1, rv a2] []))
  refine Goes.on (fun t k => XS.iconst X2.here hx rfl (hb hby d8_11) k) ?_
  show Goes p e below QQ (T2.setTop (mkF m 12 #[rv a1, rv a2] [(.int 0)]))
  exact Goes.rN X2 hx (t := .boolean) hret (by simp) hlk (hb hby d8_12) hQQ ⟨rfl, N0, e2⟩ (by decide) (by decide)
theorem ef_rmYe (m : MethodId) (x0 : Addr) (x1 : Addr) : entryFrame m #[(.ref x0), (.ref x1)] 2 = mkF m 0 #[rv x0, rv x1] [] := by first | (simp [entryFrame, mkF, argsToLocals, Value.category]; done) | rfl
set_option maxRecDepth 65536 in
set_option maxHeartbeats 40000000 in
theorem rmYe (l : Launch) (Z : State) (a0 : Array Value) (hw : ∀ d ∈ tables_1, d.before a0 Z = true) (ws : List Jvm.Cond) (a1 a2 b1 : Addr) (p1 p2 p3 : Int32) (kk : ClassId) (zz : Int32) (vs : List Value) (kr : ClassId) (rs : List Value) (xx : Int32) (h0 : Heap) (n0 : Nat) (Z0 : n0 ≤ h0.size) (E_a1 : Exa Z h0 a1 "com/example/clew/clew/algebra/Step$Members") (F_members_a1 : Fld Z h0 a1 "com/example/clew/clew/algebra/Step$Members" "members" "[I" (.ref b1)) (F_variable_a1 : Fld Z h0 a1 "com/example/clew/clew/algebra/Step$Members" "variable" "I" (.int p3)) (F_next_a1 : Fld Z h0 a1 "com/example/clew/clew/algebra/Step$Members" "next" "I" (.int p1)) (F_end_a1 : Fld Z h0 a1 "com/example/clew/clew/algebra/Step$Members" "end" "I" (.int p2)) (F_bound_a1 : Fld Z h0 a1 "com/example/clew/clew/algebra/Step$Members" "bound" "Z" (.int 0)) (V_b1 : Arv Z h0 b1 kk .int zz vs (.int 0)) (V_a2 : Arv Z h0 a2 kr .int (4 : Int32) rs (.int 0)) (g_a1 : n0 ≤ a1) (g_a2 : n0 ≤ a2) (ne_b1_a1 : b1 ≠ a1) (ne_b1_a2 : b1 ≠ a2) (ne_a1_a2 : a1 ≠ a2) (hne : ¬ p1 = p2) (I1 : ¬ p1 < 0 ∧ p1 < zz) (G1 : vs.getD p1.toNatClampNeg (.int (0 : Int32)) = .int xx) (I3 : ¬ p3 < 0 ∧ p3 < (4 : Int32)) (L3 : p3.toNatClampNeg < rs.length) :
    MetFree l (⟨"com/example/clew/clew/algebra/Step$Members", "advance", "([I)Z"⟩ : MethodName) (head1 (Jvm.Cond.code (⟨"com/example/clew/clew/algebra/Step$Members", "advance", "([I)Z"⟩ : MethodName) prog_53_method_5_code 2 (some .boolean) :: ws) ({ frames := 0, cells := 0, slots := 0, locals := 0 } : Room)) (fun a U => a = #[(.ref a1), (.ref a2)] ∧ Z.Warmed39 U.vm ∧ U.heap = h0) (fun _ _ _ _ _ => True) (fun _ U o U' => ∃ v L, o = .returned v ∧ QY Z a1 a2 (.ref b1) p3 (p1 + (1 : Int32)) p2 0 kr (rs.set p3.toNatClampNeg (.int xx)) h0 n0 v U'.heap L ∧ FrameEnd U o U' L ({ frames := 0, cells := 0, slots := 0, locals := 0 } : Room).cells ({ frames := 0, cells := 0, slots := 0, locals := 0 } : Room).slots) := by
  refine own_enter pn_8 ?_
  intro p e s m below meth c s₁ QQ hQQ hx hby hml hown hnm hret hlk hZ X0 e0
  have hown : s.vm.findClass "com/example/clew/clew/algebra/Step$Members" = some m.cls := hown
  have hml : c.maxLocals = 2 := hml
  have hret : meth.sig.returnType = some .boolean := hret
  have N0 := Fr.nil n0
  have K0 := Keep.refl h0 [a1, a2]
  refine Goes.cast (ef_rmYe m a1 a2) ?_
  show Goes p e below QQ (s₁.setTop (mkF m 0 #[rv a1, rv a2] []))
  refine Goes.on (fun t k => XS.aloadN X0.here hx rfl (hb hby d8_0) rfl rfl k) ?_
  show Goes p e below QQ (s₁.setTop (mkF m 1 #[rv a1, rv a2] [(.ref a1)]))
  obtain ⟨T1, X1, e1, st1⟩ := getF X0 hx hZ hown (host := "") (Or.inl (hw _ (List.mem_of_getElem? (i := 52) rfl))) Via.refl e0 F_next_a1 (g := (mkF m 1 #[rv a1, rv a2] [(.ref a1)])) rfl rfl (hb hby d8_1)
  refine Goes.on (fun t k => st1 t k) ?_
  show Goes p e below QQ (T1.setTop (mkF m 4 #[rv a1, rv a2] [(.int p1)]))
  refine Goes.on (fun t k => XS.aloadN X1.here hx rfl (hb hby d8_4) rfl rfl k) ?_
  show Goes p e below QQ (T1.setTop (mkF m 5 #[rv a1, rv a2] [(.ref a1), (.int p1)]))
  obtain ⟨T2, X2, e2, st2⟩ := getF X1 hx hZ hown (host := "") (Or.inl (hw _ (List.mem_of_getElem? (i := 54) rfl))) Via.refl e1 F_end_a1 (g := (mkF m 5 #[rv a1, rv a2] [(.ref a1), (.int p1)])) rfl rfl (hb hby d8_5)
  refine Goes.on (fun t k => st2 t k) ?_
  show Goes p e below QQ (T2.setTop (mkF m 8 #[rv a1, rv a2] [(.int p2), (.int p1)]))
  refine Goes.on (fun t k => XS.icmpYes X2.here hx rfl (pc0 := 8) (pc' := 13) rfl (hb hby d8_8) rfl (feq hne).2 (by decide) (by decide) k) ?_
  show Goes p e below QQ (T2.setTop (mkF m 13 #[rv a1, rv a2] []))
  refine Goes.on (fun t k => XS.aloadN X2.here hx rfl (hb hby d8_13) rfl rfl k) ?_
  show Goes p e below QQ (T2.setTop (mkF m 14 #[rv a1, rv a2] [(.ref a1)]))
  obtain ⟨T3, X3, e3, st3⟩ := getF X2 hx hZ hown (host := "") (Or.inl (hw _ (List.mem_of_getElem? (i := 56) rfl))) Via.refl e2 F_bound_a1 (g := (mkF m 14 #[rv a1, rv a2] [(.ref a1)])) rfl rfl (hb hby d8_14)
  refine Goes.on (fun t k => st3 t k) ?_
  show Goes p e below QQ (T3.setTop (mkF m 17 #[rv a1, rv a2] [(.int 0)]))
  refine Goes.on (fun t k => XS.ifNo X3.here hx rfl (hb hby d8_17) rfl ((if0 _ _).trans (teq rfl).2) k) ?_
  show Goes p e below QQ (T3.setTop (mkF m 20 #[rv a1, rv a2] []))
  refine Goes.on (fun t k => XS.aloadN X3.here hx rfl (hb hby d8_20) rfl rfl k) ?_
  show Goes p e below QQ (T3.setTop (mkF m 21 #[rv a1, rv a2] [(.ref a2)]))
  refine Goes.on (fun t k => XS.aloadN X3.here hx rfl (hb hby d8_21) rfl rfl k) ?_
  show Goes p e below QQ (T3.setTop (mkF m 22 #[rv a1, rv a2] [(.ref a1), (.ref a2)]))
  obtain ⟨T4, X4, e4, st4⟩ := getF X3 hx hZ hown (host := "") (Or.inl (hw _ (List.mem_of_getElem? (i := 45) rfl))) Via.refl e3 F_variable_a1 (g := (mkF m 22 #[rv a1, rv a2] [(.ref a1), (.ref a2)])) rfl rfl (hb hby d8_22)
  refine Goes.on (fun t k => st4 t k) ?_
  show Goes p e below QQ (T4.setTop (mkF m 25 #[rv a1, rv a2] [(.int p3), (.ref a2)]))
  refine Goes.on (fun t k => XS.aloadN X4.here hx rfl (hb hby d8_25) rfl rfl k) ?_
  show Goes p e below QQ (T4.setTop (mkF m 26 #[rv a1, rv a2] [(.ref a1), (.int p3), (.ref a2)]))
  obtain ⟨T5, X5, e5, st5⟩ := getF X4 hx hZ hown (host := "") (Or.inl (hw _ (List.mem_of_getElem? (i := 43) rfl))) Via.refl e4 F_members_a1 (g := (mkF m 26 #[rv a1, rv a2] [(.ref a1), (.int p3), (.ref a2)])) rfl rfl (hb hby d8_26)
  refine Goes.on (fun t k => st5 t k) ?_
  show Goes p e below QQ (T5.setTop (mkF m 29 #[rv a1, rv a2] [(.ref b1), (.int p3), (.ref a2)]))
  refine Goes.on (fun t k => XS.aloadN X5.here hx rfl (hb hby d8_29) rfl rfl k) ?_
  show Goes p e below QQ (T5.setTop (mkF m 30 #[rv a1, rv a2] [(.ref a1), (.ref b1), (.int p3), (.ref a2)]))
  obtain ⟨T6, X6, e6, st6⟩ := getF X5 hx hZ hown (host := "") (Or.inl (hw _ (List.mem_of_getElem? (i := 52) rfl))) Via.refl e5 F_next_a1 (g := (mkF m 30 #[rv a1, rv a2] [(.ref a1), (.ref b1), (.int p3), (.ref a2)])) rfl rfl (hb hby d8_30)
  refine Goes.on (fun t k => st6 t k) ?_
  show Goes p e below QQ (T6.setTop (mkF m 33 #[rv a1, rv a2] [(.int p1), (.ref b1), (.int p3), (.ref a2)]))
  obtain ⟨cl7, Ar7, aq7, aS7, aN7, aH7, aG7⟩ := id V_b1
  have hin7 := inb_of (j := p1) aS7 I1
  have hat7 := Has.at (v := (.int xx)) aH7 hin7 G1
  refine Goes.on (fun t k => X6.iaload hx (j := p1) (v := (.int xx)) (by rw [e6]; exact Ar7.1) (State.isArrayOf_alike hZ.alike Ar7.2.1) Ar7.2.2 hin7 hat7 (g := (mkF m 33 #[rv a1, rv a2] [(.int p1), (.ref b1), (.int p3), (.ref a2)])) rfl rfl (hb hby d8_33) t k) ?_
  show Goes p e below QQ (T6.setTop (mkF m 34 #[rv a1, rv a2] [(.int xx), (.int p3), (.ref a2)]))
  obtain ⟨cl8, Ar8, aq8, aS8, aN8, aH8, aG8⟩ := id V_a2
  have hin8 := inb_of (j := p3) aS8 I3
  obtain ⟨T9, h9, X9, e9, W9, st9⟩ := stI X6 hx hZ e6 Ar8 (j := p3) hin8 (g := (mkF m 34 #[rv a1, rv a2] [(.int xx), (.int p3), (.ref a2)])) rfl rfl (hb hby d8_34)
  have E_10 := E_a1.wr W9
  have F_11 := F_members_a1.other W9 (Or.inl ne_a1_a2)
  have F_12 := F_variable_a1.other W9 (Or.inl ne_a1_a2)
  have F_13 := F_next_a1.other W9 (Or.inl ne_a1_a2)
  have F_14 := F_end_a1.other W9 (Or.inl ne_a1_a2)
  have F_15 := F_bound_a1.other W9 (Or.inl ne_a1_a2)
  have V_16 := V_b1.other W9 ne_b1_a2
  have K9 := K0.wr W9 (Or.inl (List.mem_of_getElem? (i := 1) rfl))
  have N9 := Fr.snoc X9 N0 g_a2
  have V_17 : Arv Z h9 a2 kr .int (4 : Int32) (rs.set (p3).toNatClampNeg (.int xx)) (.int 0) := Arv.set Ar8 aq8 aS8 aN8 aH8 aG8 rfl W9 (p3).toNatClampNeg rfl L3
  refine Goes.on (fun t k => st9 t k) ?_
  show Goes p e below QQ (T9.setTop (mkF m 35 #[rv a1, rv a2] []))
  refine Goes.on (fun t k => XS.aloadN X9.here hx rfl (hb hby d8_35) rfl rfl k) ?_
  show Goes p e below QQ (T9.setTop (mkF m 36 #[rv a1, rv a2] [(.ref a1)]))
  refine Goes.on (fun t k => XS.dup X9.here hx rfl (hb hby d8_36) rfl rfl k) ?_
  show Goes p e below QQ (T9.setTop (mkF m 37 #[rv a1, rv a2] [(.ref a1), (.ref a1)]))
  obtain ⟨T18, X18, e18, st18⟩ := getF X9 hx hZ hown (host := "") (Or.inl (hw _ (List.mem_of_getElem? (i := 52) rfl))) Via.refl e9 F_13 (g := (mkF m 37 #[rv a1, rv a2] [(.ref a1), (.ref a1)])) rfl rfl (hb hby d8_37)
  refine Goes.on (fun t k => st18 t k) ?_
  show Goes p e below QQ (T18.setTop (mkF m 40 #[rv a1, rv a2] [(.int p1), (.ref a1)]))
  refine Goes.on (fun t k => XS.iconst X18.here hx rfl (hb hby d8_40) k) ?_
  show Goes p e below QQ (T18.setTop (mkF m 41 #[rv a1, rv a2] [(.int 1), (.int p1), (.ref a1)]))
  refine Goes.on (fun t k => XS.iadd X18.here hx rfl (hb hby d8_41) rfl k) ?_
  show Goes p e below QQ (T18.setTop (mkF m 42 #[rv a1, rv a2] [(.int (p1 + (1 : Int32))), (.ref a1)]))
  obtain ⟨T19, h19, X19, e19, W19, st19⟩ := putF X18 hx hZ hown (host := "") (Or.inl (hw _ (List.mem_of_getElem? (i := 52) rfl))) Via.refl e18 F_13 E_10 (Or.inl (hw _ (List.mem_of_getElem? (i := 53) rfl))) (hw _ (List.mem_of_getElem? (i := 2) rfl)) (ty := .int) (by decide) rfl rfl (g := (mkF m 42 #[rv a1, rv a2] [(.int (p1 + (1 : Int32))), (.ref a1)])) rfl rfl (hb hby d8_42)
  have E_20 := E_10.wr W19
  have F_21 := F_11.other W19 (Or.inr (slot_ne (Or.inr (hw _ (List.mem_of_getElem? (i := 44) rfl))) (Or.inl (hw _ (List.mem_of_getElem? (i := 53) rfl))) (by decide) (t := (.array .int)) (t' := .int) (by decide) (by decide)))
  have F_22 := F_12.other W19 (Or.inr (slot_ne (Or.inr (hw _ (List.mem_of_getElem? (i := 46) rfl))) (Or.inl (hw _ (List.mem_of_getElem? (i := 53) rfl))) (by decide) (t := .int) (t' := .int) (by decide) (by decide)))
  have F_23 := F_14.other W19 (Or.inr (slot_ne (Or.inl (hw _ (List.mem_of_getElem? (i := 55) rfl))) (Or.inl (hw _ (List.mem_of_getElem? (i := 53) rfl))) (by decide) (t := .int) (t' := .int) (by decide) (by decide)))
  have F_24 := F_15.other W19 (Or.inr (slot_ne (Or.inl (hw _ (List.mem_of_getElem? (i := 57) rfl))) (Or.inl (hw _ (List.mem_of_getElem? (i := 53) rfl))) (by decide) (t := .boolean) (t' := .int) (by decide) (by decide)))
  have V_25 := V_16.other W19 ne_b1_a1
  have V_26 := V_17.other W19 (Ne.symm ne_a1_a2)
  have K19 := K9.wr W19 (Or.inl (List.mem_of_getElem? (i := 0) rfl))
  have N19 := Fr.snoc X19 N9 g_a1
  have F_27 : Fld Z h19 a1 "com/example/clew/clew/algebra/Step$Members" "next" "I" (.int (p1 + (1 : Int32))) := F_13.same W19
  refine Goes.on (fun t k => st19 t k) ?_
  show Goes p e below QQ (T19.setTop (mkF m 45 #[rv a1, rv a2] []))
  refine Goes.on (fun t k => XS.iconst X19.here hx rfl (hb hby d8_45) k) ?_
  show Goes p e below QQ (T19.setTop (mkF m 46 #[rv a1, rv a2] [(.int 1)]))
  exact Goes.rN X19 hx (t := .boolean) hret (by simp) hlk (hb hby d8_46) hQQ (by rw [e19]; exact ⟨rfl, N19, K19, ⟨F_21, F_22, F_27, F_23, F_24⟩, V_26⟩) (by decide) (by decide)
theorem d10_0 : decode method_3_code 0 = .ok (.iload_n 0, 1) := by decide +kernel
theorem d10_1 : decode method_3_code 1 = .ok (.iload_n 1, 1) := by decide +kernel
theorem d10_2 : decode method_3_code 2 = .ok (.if_icmp .lt 36, 3) := by decide +kernel
theorem d10_5 : decode method_3_code 5 = .ok (.iload_n 1, 1) := by decide +kernel
theorem d10_6 : decode method_3_code 6 = .ok (.ifCond .ne 10, 3) := by decide +kernel
theorem d10_9 : decode method_3_code 9 = .ok (.iload 6, 2) := by decide +kernel
theorem d10_11 : decode method_3_code 11 = .ok (.iload_n 2, 1) := by decide +kernel
theorem d10_12 : decode method_3_code 12 = .ok (.iadd, 1) := by decide +kernel
theorem d10_13 : decode method_3_code 13 = .ok (.goto 24, 3) := by decide +kernel
theorem d10_16 : decode method_3_code 16 = .ok (.iload_n 1, 1) := by decide +kernel
theorem d10_17 : decode method_3_code 17 = .ok (.iconst 1, 1) := by decide +kernel
theorem d10_18 : decode method_3_code 18 = .ok (.if_icmp .ne 7, 3) := by decide +kernel
theorem d10_21 : decode method_3_code 21 = .ok (.iload_n 3, 1) := by decide +kernel
theorem d10_22 : decode method_3_code 22 = .ok (.goto 15, 3) := by decide +kernel
theorem d10_25 : decode method_3_code 25 = .ok (.iload_n 1, 1) := by decide +kernel
theorem d10_26 : decode method_3_code 26 = .ok (.iconst 2, 1) := by decide +kernel
theorem d10_27 : decode method_3_code 27 = .ok (.if_icmp .ne 8, 3) := by decide +kernel
theorem d10_30 : decode method_3_code 30 = .ok (.iload 4, 2) := by decide +kernel
theorem d10_32 : decode method_3_code 32 = .ok (.goto 5, 3) := by decide +kernel
theorem d10_35 : decode method_3_code 35 = .ok (.iload 5, 2) := by decide +kernel
theorem d10_37 : decode method_3_code 37 = .ok (.ireturn, 1) := by decide +kernel
theorem d10_38 : decode method_3_code 38 = .ok (.iload_n 0, 1) := by decide +kernel
theorem d10_39 : decode method_3_code 39 = .ok (.ifCond .ne 7, 3) := by decide +kernel
theorem d10_42 : decode method_3_code 42 = .ok (.iload_n 3, 1) := by decide +kernel
theorem d10_43 : decode method_3_code 43 = .ok (.goto 15, 3) := by decide +kernel
theorem d10_46 : decode method_3_code 46 = .ok (.iload_n 0, 1) := by decide +kernel
theorem d10_47 : decode method_3_code 47 = .ok (.iconst 1, 1) := by decide +kernel
theorem d10_48 : decode method_3_code 48 = .ok (.if_icmp .ne 8, 3) := by decide +kernel
theorem d10_51 : decode method_3_code 51 = .ok (.iload 4, 2) := by decide +kernel
theorem d10_53 : decode method_3_code 53 = .ok (.goto 5, 3) := by decide +kernel
theorem d10_56 : decode method_3_code 56 = .ok (.iload 5, 2) := by decide +kernel
theorem d10_58 : decode method_3_code 58 = .ok (.ireturn, 1) := by decide +kernel
theorem pn_10 : plainFor (⟨"com/example/clew/clew/algebra/MembersAdvancePinLaw", "expectedAt", "(IIIIIII)I"⟩ : MethodName) = true := plainFor_of_name (show plainName "com/example/clew/clew/algebra/MembersAdvancePinLaw" = true by first | (simp [plainName, overriddenIn]; done) | decide +kernel)
theorem ef_rmEx (m : MethodId) (x0 : Int32) (x1 : Int32) (x2 : Int32) (x3 : Int32) (x4 : Int32) (x5 : Int32) (x6 : Int32) : entryFrame m #[(.int x0), (.int x1), (.int x2), (.int x3), (.int x4), (.int x5), (.int x6)] 7 = mkF m 0 #[iv x0, iv x1, iv x2, iv x3, iv x4, iv x5, iv x6] [] := by first | (simp [entryFrame, mkF, argsToLocals, Value.category]; done) | rfl
def expF (p1 : Int32) (p2 : Int32) (p3 : Int32) (p4 : Int32) (p5 : Int32) (p6 : Int32) (p7 : Int32) : Int32 := (if p1 < p2 then (if p1 = (0 : Int32) then p4 else (if p1 = (1 : Int32) then p5 else p6)) else (if p2 = (0 : Int32) then (p7 + p3) else (if p2 = (1 : Int32) then p4 else (if p2 = (2 : Int32) then p5 else p6))))
set_option maxRecDepth 65536 in
set_option maxHeartbeats 40000000 in
theorem rmEx (l : Launch) (Z : State) (a0 : Array Value) (hw : ∀ d ∈ tables_1, d.before a0 Z = true) (ws : List Jvm.Cond) (p1 : Int32) (p2 : Int32) (p3 : Int32) (p4 : Int32) (p5 : Int32) (p6 : Int32) (p7 : Int32)  (h0 : Heap) (n0 : Nat) (Z0 : n0 ≤ h0.size)  :
    MetFree l (⟨"com/example/clew/clew/algebra/MembersAdvancePinLaw", "expectedAt", "(IIIIIII)I"⟩ : MethodName) (head1 (Jvm.Cond.code (⟨"com/example/clew/clew/algebra/MembersAdvancePinLaw", "expectedAt", "(IIIIIII)I"⟩ : MethodName) method_3_code 7 (some .int) :: ws) ({ frames := 0, cells := 0, slots := 0, locals := 0 } : Room)) (fun a U => a = #[(.int p1), (.int p2), (.int p3), (.int p4), (.int p5), (.int p6), (.int p7)] ∧ Z.Warmed39 U.vm ∧ U.heap = h0) (fun _ _ _ _ _ => True) (fun _ U o U' => ∃ v L, o = .returned v ∧ QP (.int (expF p1 p2 p3 p4 p5 p6 p7)) h0 n0 v U'.heap L ∧ FrameEnd U o U' L ({ frames := 0, cells := 0, slots := 0, locals := 0 } : Room).cells ({ frames := 0, cells := 0, slots := 0, locals := 0 } : Room).slots) := by
  refine own_enter pn_10 ?_
  intro p e s m below meth c s₁ QQ hQQ hx hby hml hown hnm hret hlk hZ X0 e0
  have hown : s.vm.findClass "com/example/clew/clew/algebra/MembersAdvancePinLaw" = some m.cls := hown
  have hml : c.maxLocals = 7 := hml
  have hret : meth.sig.returnType = some .int := hret
  have N0 := Fr.nil n0
  have K0 := Keep.refl h0 []
  refine Goes.cast (ef_rmEx m p1 p2 p3 p4 p5 p6 p7) ?_
  show Goes p e below QQ (s₁.setTop (mkF m 0 #[iv p1, iv p2, iv p3, iv p4, iv p5, iv p6, iv p7] []))
  refine Goes.on (fun t k => XS.iloadN X0.here hx rfl (hb hby d10_0) rfl k) ?_
  show Goes p e below QQ (s₁.setTop (mkF m 1 #[iv p1, iv p2, iv p3, iv p4, iv p5, iv p6, iv p7] [(.int p1)]))
  refine Goes.on (fun t k => XS.iloadN X0.here hx rfl (hb hby d10_1) rfl k) ?_
  show Goes p e below QQ (s₁.setTop (mkF m 2 #[iv p1, iv p2, iv p3, iv p4, iv p5, iv p6, iv p7] [(.int p2), (.int p1)]))
  by_cases hb1 : p1 < p2
  · refine Goes.on (fun t k => XS.icmpYes X0.here hx rfl (pc0 := 2) (pc' := 38) rfl (hb hby d10_2) rfl (tlt hb1).1 (by decide) (by decide) k) ?_
    show Goes p e below QQ (s₁.setTop (mkF m 38 #[iv p1, iv p2, iv p3, iv p4, iv p5, iv p6, iv p7] []))
    refine Goes.on (fun t k => XS.iloadN X0.here hx rfl (hb hby d10_38) rfl k) ?_
    show Goes p e below QQ (s₁.setTop (mkF m 39 #[iv p1, iv p2, iv p3, iv p4, iv p5, iv p6, iv p7] [(.int p1)]))
    by_cases hb2 : p1 = (0 : Int32)
    · refine Goes.on (fun t k => XS.ifNo X0.here hx rfl (hb hby d10_39) rfl ((if0 _ _).trans (teq hb2).2) k) ?_
      show Goes p e below QQ (s₁.setTop (mkF m 42 #[iv p1, iv p2, iv p3, iv p4, iv p5, iv p6, iv p7] []))
      refine Goes.on (fun t k => XS.iloadN X0.here hx rfl (hb hby d10_42) rfl k) ?_
      show Goes p e below QQ (s₁.setTop (mkF m 43 #[iv p1, iv p2, iv p3, iv p4, iv p5, iv p6, iv p7] [(.int p4)]))
      refine Goes.on (fun t k => XS.goto X0.here hx rfl (pc0 := 43) (pc' := 58) rfl (hb hby d10_43) (by decide) (by decide) k) ?_
      show Goes p e below QQ (s₁.setTop (mkF m 58 #[iv p1, iv p2, iv p3, iv p4, iv p5, iv p6, iv p7] [(.int p4)]))
      exact Goes.rI X0 hx hret hlk (hb hby d10_58) hQQ ⟨congrArg (fun z => some (Value.int z)) (((if_pos hb1).trans ((if_pos hb2).trans rfl)) : (expF p1 p2 p3 p4 p5 p6 p7) = p4).symm, N0, e0⟩ (by decide) (by decide)
    · refine Goes.on (fun t k => XS.ifYes X0.here hx rfl (pc0 := 39) (pc' := 46) rfl (hb hby d10_39) rfl ((if0 _ _).trans (feq hb2).2) (by decide) (by decide) k) ?_
      show Goes p e below QQ (s₁.setTop (mkF m 46 #[iv p1, iv p2, iv p3, iv p4, iv p5, iv p6, iv p7] []))
      refine Goes.on (fun t k => XS.iloadN X0.here hx rfl (hb hby d10_46) rfl k) ?_
      show Goes p e below QQ (s₁.setTop (mkF m 47 #[iv p1, iv p2, iv p3, iv p4, iv p5, iv p6, iv p7] [(.int p1)]))
      refine Goes.on (fun t k => XS.iconst X0.here hx rfl (hb hby d10_47) k) ?_
      show Goes p e below QQ (s₁.setTop (mkF m 48 #[iv p1, iv p2, iv p3, iv p4, iv p5, iv p6, iv p7] [(.int 1), (.int p1)]))
      by_cases hb3 : p1 = (1 : Int32)
      · refine Goes.on (fun t k => XS.icmpNo X0.here hx rfl (hb hby d10_48) rfl (teq hb3).2 k) ?_
        show Goes p e below QQ (s₁.setTop (mkF m 51 #[iv p1, iv p2, iv p3, iv p4, iv p5, iv p6, iv p7] []))
        refine Goes.on (fun t k => XS.iload X0.here hx rfl (hb hby d10_51) rfl k) ?_
        show Goes p e below QQ (s₁.setTop (mkF m 53 #[iv p1, iv p2, iv p3, iv p4, iv p5, iv p6, iv p7] [(.int p5)]))
        refine Goes.on (fun t k => XS.goto X0.here hx rfl (pc0 := 53) (pc' := 58) rfl (hb hby d10_53) (by decide) (by decide) k) ?_
        show Goes p e below QQ (s₁.setTop (mkF m 58 #[iv p1, iv p2, iv p3, iv p4, iv p5, iv p6, iv p7] [(.int p5)]))
        exact Goes.rI X0 hx hret hlk (hb hby d10_58) hQQ ⟨congrArg (fun z => some (Value.int z)) (((if_pos hb1).trans ((if_neg hb2).trans ((if_pos hb3).trans rfl))) : (expF p1 p2 p3 p4 p5 p6 p7) = p5).symm, N0, e0⟩ (by decide) (by decide)
      · refine Goes.on (fun t k => XS.icmpYes X0.here hx rfl (pc0 := 48) (pc' := 56) rfl (hb hby d10_48) rfl (feq hb3).2 (by decide) (by decide) k) ?_
        show Goes p e below QQ (s₁.setTop (mkF m 56 #[iv p1, iv p2, iv p3, iv p4, iv p5, iv p6, iv p7] []))
        refine Goes.on (fun t k => XS.iload X0.here hx rfl (hb hby d10_56) rfl k) ?_
        show Goes p e below QQ (s₁.setTop (mkF m 58 #[iv p1, iv p2, iv p3, iv p4, iv p5, iv p6, iv p7] [(.int p6)]))
        exact Goes.rI X0 hx hret hlk (hb hby d10_58) hQQ ⟨congrArg (fun z => some (Value.int z)) (((if_pos hb1).trans ((if_neg hb2).trans ((if_neg hb3).trans rfl))) : (expF p1 p2 p3 p4 p5 p6 p7) = p6).symm, N0, e0⟩ (by decide) (by decide)
  · refine Goes.on (fun t k => XS.icmpNo X0.here hx rfl (hb hby d10_2) rfl (flt hb1).1 k) ?_
    show Goes p e below QQ (s₁.setTop (mkF m 5 #[iv p1, iv p2, iv p3, iv p4, iv p5, iv p6, iv p7] []))
    refine Goes.on (fun t k => XS.iloadN X0.here hx rfl (hb hby d10_5) rfl k) ?_
    show Goes p e below QQ (s₁.setTop (mkF m 6 #[iv p1, iv p2, iv p3, iv p4, iv p5, iv p6, iv p7] [(.int p2)]))
    by_cases hb4 : p2 = (0 : Int32)
    · refine Goes.on (fun t k => XS.ifNo X0.here hx rfl (hb hby d10_6) rfl ((if0 _ _).trans (teq hb4).2) k) ?_
      show Goes p e below QQ (s₁.setTop (mkF m 9 #[iv p1, iv p2, iv p3, iv p4, iv p5, iv p6, iv p7] []))
      refine Goes.on (fun t k => XS.iload X0.here hx rfl (hb hby d10_9) rfl k) ?_
      show Goes p e below QQ (s₁.setTop (mkF m 11 #[iv p1, iv p2, iv p3, iv p4, iv p5, iv p6, iv p7] [(.int p7)]))
      refine Goes.on (fun t k => XS.iloadN X0.here hx rfl (hb hby d10_11) rfl k) ?_
      show Goes p e below QQ (s₁.setTop (mkF m 12 #[iv p1, iv p2, iv p3, iv p4, iv p5, iv p6, iv p7] [(.int p3), (.int p7)]))
      refine Goes.on (fun t k => XS.iadd X0.here hx rfl (hb hby d10_12) rfl k) ?_
      show Goes p e below QQ (s₁.setTop (mkF m 13 #[iv p1, iv p2, iv p3, iv p4, iv p5, iv p6, iv p7] [(.int (p7 + p3))]))
      refine Goes.on (fun t k => XS.goto X0.here hx rfl (pc0 := 13) (pc' := 37) rfl (hb hby d10_13) (by decide) (by decide) k) ?_
      show Goes p e below QQ (s₁.setTop (mkF m 37 #[iv p1, iv p2, iv p3, iv p4, iv p5, iv p6, iv p7] [(.int (p7 + p3))]))
      exact Goes.rI X0 hx hret hlk (hb hby d10_37) hQQ ⟨congrArg (fun z => some (Value.int z)) (((if_neg hb1).trans ((if_pos hb4).trans rfl)) : (expF p1 p2 p3 p4 p5 p6 p7) = (p7 + p3)).symm, N0, e0⟩ (by decide) (by decide)
    · refine Goes.on (fun t k => XS.ifYes X0.here hx rfl (pc0 := 6) (pc' := 16) rfl (hb hby d10_6) rfl ((if0 _ _).trans (feq hb4).2) (by decide) (by decide) k) ?_
      show Goes p e below QQ (s₁.setTop (mkF m 16 #[iv p1, iv p2, iv p3, iv p4, iv p5, iv p6, iv p7] []))
      refine Goes.on (fun t k => XS.iloadN X0.here hx rfl (hb hby d10_16) rfl k) ?_
      show Goes p e below QQ (s₁.setTop (mkF m 17 #[iv p1, iv p2, iv p3, iv p4, iv p5, iv p6, iv p7] [(.int p2)]))
      refine Goes.on (fun t k => XS.iconst X0.here hx rfl (hb hby d10_17) k) ?_
      show Goes p e below QQ (s₁.setTop (mkF m 18 #[iv p1, iv p2, iv p3, iv p4, iv p5, iv p6, iv p7] [(.int 1), (.int p2)]))
      by_cases hb5 : p2 = (1 : Int32)
      · refine Goes.on (fun t k => XS.icmpNo X0.here hx rfl (hb hby d10_18) rfl (teq hb5).2 k) ?_
        show Goes p e below QQ (s₁.setTop (mkF m 21 #[iv p1, iv p2, iv p3, iv p4, iv p5, iv p6, iv p7] []))
        refine Goes.on (fun t k => XS.iloadN X0.here hx rfl (hb hby d10_21) rfl k) ?_
        show Goes p e below QQ (s₁.setTop (mkF m 22 #[iv p1, iv p2, iv p3, iv p4, iv p5, iv p6, iv p7] [(.int p4)]))
        refine Goes.on (fun t k => XS.goto X0.here hx rfl (pc0 := 22) (pc' := 37) rfl (hb hby d10_22) (by decide) (by decide) k) ?_
        show Goes p e below QQ (s₁.setTop (mkF m 37 #[iv p1, iv p2, iv p3, iv p4, iv p5, iv p6, iv p7] [(.int p4)]))
        exact Goes.rI X0 hx hret hlk (hb hby d10_37) hQQ ⟨congrArg (fun z => some (Value.int z)) (((if_neg hb1).trans ((if_neg hb4).trans ((if_pos hb5).trans rfl))) : (expF p1 p2 p3 p4 p5 p6 p7) = p4).symm, N0, e0⟩ (by decide) (by decide)
      · refine Goes.on (fun t k => XS.icmpYes X0.here hx rfl (pc0 := 18) (pc' := 25) rfl (hb hby d10_18) rfl (feq hb5).2 (by decide) (by decide) k) ?_
        show Goes p e below QQ (s₁.setTop (mkF m 25 #[iv p1, iv p2, iv p3, iv p4, iv p5, iv p6, iv p7] []))
        refine Goes.on (fun t k => XS.iloadN X0.here hx rfl (hb hby d10_25) rfl k) ?_
        show Goes p e below QQ (s₁.setTop (mkF m 26 #[iv p1, iv p2, iv p3, iv p4, iv p5, iv p6, iv p7] [(.int p2)]))
        refine Goes.on (fun t k => XS.iconst X0.here hx rfl (hb hby d10_26) k) ?_
        show Goes p e below QQ (s₁.setTop (mkF m 27 #[iv p1, iv p2, iv p3, iv p4, iv p5, iv p6, iv p7] [(.int 2), (.int p2)]))
        by_cases hb6 : p2 = (2 : Int32)
        · refine Goes.on (fun t k => XS.icmpNo X0.here hx rfl (hb hby d10_27) rfl (teq hb6).2 k) ?_
          show Goes p e below QQ (s₁.setTop (mkF m 30 #[iv p1, iv p2, iv p3, iv p4, iv p5, iv p6, iv p7] []))
          refine Goes.on (fun t k => XS.iload X0.here hx rfl (hb hby d10_30) rfl k) ?_
          show Goes p e below QQ (s₁.setTop (mkF m 32 #[iv p1, iv p2, iv p3, iv p4, iv p5, iv p6, iv p7] [(.int p5)]))
          refine Goes.on (fun t k => XS.goto X0.here hx rfl (pc0 := 32) (pc' := 37) rfl (hb hby d10_32) (by decide) (by decide) k) ?_
          show Goes p e below QQ (s₁.setTop (mkF m 37 #[iv p1, iv p2, iv p3, iv p4, iv p5, iv p6, iv p7] [(.int p5)]))
          exact Goes.rI X0 hx hret hlk (hb hby d10_37) hQQ ⟨congrArg (fun z => some (Value.int z)) (((if_neg hb1).trans ((if_neg hb4).trans ((if_neg hb5).trans ((if_pos hb6).trans rfl)))) : (expF p1 p2 p3 p4 p5 p6 p7) = p5).symm, N0, e0⟩ (by decide) (by decide)
        · refine Goes.on (fun t k => XS.icmpYes X0.here hx rfl (pc0 := 27) (pc' := 35) rfl (hb hby d10_27) rfl (feq hb6).2 (by decide) (by decide) k) ?_
          show Goes p e below QQ (s₁.setTop (mkF m 35 #[iv p1, iv p2, iv p3, iv p4, iv p5, iv p6, iv p7] []))
          refine Goes.on (fun t k => XS.iload X0.here hx rfl (hb hby d10_35) rfl k) ?_
          show Goes p e below QQ (s₁.setTop (mkF m 37 #[iv p1, iv p2, iv p3, iv p4, iv p5, iv p6, iv p7] [(.int p6)]))
          exact Goes.rI X0 hx hret hlk (hb hby d10_37) hQQ ⟨congrArg (fun z => some (Value.int z)) (((if_neg hb1).trans ((if_neg hb4).trans ((if_neg hb5).trans ((if_neg hb6).trans rfl)))) : (expF p1 p2 p3 p4 p5 p6 p7) = p6).symm, N0, e0⟩ (by decide) (by decide)
theorem d11_0 : decode method_5_code 0 = .ok (.aload_n 0, 1) := by decide +kernel
theorem d11_1 : decode method_5_code 1 = .ok (.iload_n 1, 1) := by decide +kernel
theorem d11_2 : decode method_5_code 2 = .ok (.iaload, 1) := by decide +kernel
theorem d11_3 : decode method_5_code 3 = .ok (.iload_n 1, 1) := by decide +kernel
theorem d11_4 : decode method_5_code 4 = .ok (.iload_n 2, 1) := by decide +kernel
theorem d11_5 : decode method_5_code 5 = .ok (.if_icmp .ne 7, 3) := by decide +kernel
theorem d11_8 : decode method_5_code 8 = .ok (.iload_n 3, 1) := by decide +kernel
theorem d11_9 : decode method_5_code 9 = .ok (.goto 7, 3) := by decide +kernel
theorem d11_12 : decode method_5_code 12 = .ok (.iload 4, 2) := by decide +kernel
theorem d11_14 : decode method_5_code 14 = .ok (.iload_n 1, 1) := by decide +kernel
theorem d11_15 : decode method_5_code 15 = .ok (.iadd, 1) := by decide +kernel
theorem d11_16 : decode method_5_code 16 = .ok (.if_icmp .ne 7, 3) := by decide +kernel
theorem d11_19 : decode method_5_code 19 = .ok (.iconst 1, 1) := by decide +kernel
theorem d11_20 : decode method_5_code 20 = .ok (.goto 4, 3) := by decide +kernel
theorem d11_23 : decode method_5_code 23 = .ok (.iconst 0, 1) := by decide +kernel
theorem d11_24 : decode method_5_code 24 = .ok (.ireturn, 1) := by decide +kernel
theorem pn_11 : plainFor (⟨"com/example/clew/clew/algebra/MembersAdvancePinLaw", "cell", "([IIIII)Z"⟩ : MethodName) = true := plainFor_of_name (show plainName "com/example/clew/clew/algebra/MembersAdvancePinLaw" = true by first | (simp [plainName, overriddenIn]; done) | decide +kernel)
theorem ef_rmCe (m : MethodId) (x0 : Addr) (x1 : Int32) (x2 : Int32) (x3 : Int32) (x4 : Int32) : entryFrame m #[(.ref x0), (.int x1), (.int x2), (.int x3), (.int x4)] 5 = mkF m 0 #[rv x0, iv x1, iv x2, iv x3, iv x4] [] := by first | (simp [entryFrame, mkF, argsToLocals, Value.category]; done) | rfl
def cellF (p2 : Int32) (p3 : Int32) (p4 : Int32) (p5 : Int32) (x0 : Int32) : Int32 := (if x0 = (if p2 = p3 then p4 else (p5 + p2)) then (1 : Int32) else (0 : Int32))
set_option maxRecDepth 65536 in
set_option maxHeartbeats 40000000 in
theorem rmCe (l : Launch) (Z : State) (a0 : Array Value) (hw : ∀ d ∈ tables_1, d.before a0 Z = true) (ws : List Jvm.Cond) (a1 : Addr) (p2 : Int32) (p3 : Int32) (p4 : Int32) (p5 : Int32) (kk : ClassId) (zz : Int32) (vs : List Value) (x0 : Int32) (h0 : Heap) (n0 : Nat) (Z0 : n0 ≤ h0.size) (V_a1 : Arv Z h0 a1 kk .int zz vs (.int 0)) (I0 : ¬ p2 < 0 ∧ p2 < zz) (G0 : vs.getD p2.toNatClampNeg (.int (0 : Int32)) = .int x0) :
    MetFree l (⟨"com/example/clew/clew/algebra/MembersAdvancePinLaw", "cell", "([IIIII)Z"⟩ : MethodName) (head1 (Jvm.Cond.code (⟨"com/example/clew/clew/algebra/MembersAdvancePinLaw", "cell", "([IIIII)Z"⟩ : MethodName) method_5_code 5 (some .boolean) :: ws) ({ frames := 0, cells := 0, slots := 0, locals := 0 } : Room)) (fun a U => a = #[(.ref a1), (.int p2), (.int p3), (.int p4), (.int p5)] ∧ Z.Warmed39 U.vm ∧ U.heap = h0) (fun _ _ _ _ _ => True) (fun _ U o U' => ∃ v L, o = .returned v ∧ QP (.int (cellF p2 p3 p4 p5 x0)) h0 n0 v U'.heap L ∧ FrameEnd U o U' L ({ frames := 0, cells := 0, slots := 0, locals := 0 } : Room).cells ({ frames := 0, cells := 0, slots := 0, locals := 0 } : Room).slots) := by
  refine own_enter pn_11 ?_
  intro p e s m below meth c s₁ QQ hQQ hx hby hml hown hnm hret hlk hZ X0 e0
  have hown : s.vm.findClass "com/example/clew/clew/algebra/MembersAdvancePinLaw" = some m.cls := hown
  have hml : c.maxLocals = 5 := hml
  have hret : meth.sig.returnType = some .boolean := hret
  have N0 := Fr.nil n0
  have K0 := Keep.refl h0 []
  refine Goes.cast (ef_rmCe m a1 p2 p3 p4 p5) ?_
  show Goes p e below QQ (s₁.setTop (mkF m 0 #[rv a1, iv p2, iv p3, iv p4, iv p5] []))
  refine Goes.on (fun t k => XS.aloadN X0.here hx rfl (hb hby d11_0) rfl rfl k) ?_
  show Goes p e below QQ (s₁.setTop (mkF m 1 #[rv a1, iv p2, iv p3, iv p4, iv p5] [(.ref a1)]))
  refine Goes.on (fun t k => XS.iloadN X0.here hx rfl (hb hby d11_1) rfl k) ?_
  show Goes p e below QQ (s₁.setTop (mkF m 2 #[rv a1, iv p2, iv p3, iv p4, iv p5] [(.int p2), (.ref a1)]))
  obtain ⟨cl1, Ar1, aq1, aS1, aN1, aH1, aG1⟩ := id V_a1
  have hin1 := inb_of (j := p2) aS1 I0
  have hat1 := Has.at (v := (.int x0)) aH1 hin1 G0
  refine Goes.on (fun t k => X0.iaload hx (j := p2) (v := (.int x0)) (by rw [e0]; exact Ar1.1) (State.isArrayOf_alike hZ.alike Ar1.2.1) Ar1.2.2 hin1 hat1 (g := (mkF m 2 #[rv a1, iv p2, iv p3, iv p4, iv p5] [(.int p2), (.ref a1)])) rfl rfl (hb hby d11_2) t k) ?_
  show Goes p e below QQ (s₁.setTop (mkF m 3 #[rv a1, iv p2, iv p3, iv p4, iv p5] [(.int x0)]))
  refine Goes.on (fun t k => XS.iloadN X0.here hx rfl (hb hby d11_3) rfl k) ?_
  show Goes p e below QQ (s₁.setTop (mkF m 4 #[rv a1, iv p2, iv p3, iv p4, iv p5] [(.int p2), (.int x0)]))
  refine Goes.on (fun t k => XS.iloadN X0.here hx rfl (hb hby d11_4) rfl k) ?_
  show Goes p e below QQ (s₁.setTop (mkF m 5 #[rv a1, iv p2, iv p3, iv p4, iv p5] [(.int p3), (.int p2), (.int x0)]))
  have J2 : ∀ (TJ2 : State) (lJ2 : List Loc), Stand p l e ({ frames := 0, cells := 0, slots := 0, locals := 0 } : Room) s m #[(.ref a1), (.int p2), (.int p3), (.int p4), (.int p5)] below meth c TJ2 lJ2 0 0 → TJ2.heap = h0 → Fr n0 lJ2 → Goes p e below QQ (TJ2.setTop (mkF m 16 #[rv a1, iv p2, iv p3, iv p4, iv p5] [(.int (if p2 = p3 then p4 else (p5 + p2))), (.int x0)])) := by
    intro TJ2 lJ2 XJ2 eJ2 NJ2
    by_cases hb3 : x0 = (if p2 = p3 then p4 else (p5 + p2))
    · refine Goes.on (fun t k => XS.icmpNo XJ2.here hx rfl (hb hby d11_16) rfl (teq hb3).2 k) ?_
      show Goes p e below QQ (TJ2.setTop (mkF m 19 #[rv a1, iv p2, iv p3, iv p4, iv p5] []))
      refine Goes.on (fun t k => XS.iconst XJ2.here hx rfl (hb hby d11_19) k) ?_
      show Goes p e below QQ (TJ2.setTop (mkF m 20 #[rv a1, iv p2, iv p3, iv p4, iv p5] [(.int 1)]))
      refine Goes.on (fun t k => XS.goto XJ2.here hx rfl (pc0 := 20) (pc' := 24) rfl (hb hby d11_20) (by decide) (by decide) k) ?_
      show Goes p e below QQ (TJ2.setTop (mkF m 24 #[rv a1, iv p2, iv p3, iv p4, iv p5] [(.int 1)]))
      have hv : nar .boolean (1 : Int32) = (1 : Int32) := rfl
      exact Goes.rN XJ2 hx (t := .boolean) hret (by simp) hlk (hb hby d11_24) hQQ ⟨congrArg (fun z => some (Value.int z)) (hv.trans (((if_pos hb3).trans rfl) : (cellF p2 p3 p4 p5 x0) = (1 : Int32)).symm), NJ2, eJ2⟩ (by decide) (by decide)
    · refine Goes.on (fun t k => XS.icmpYes XJ2.here hx rfl (pc0 := 16) (pc' := 23) rfl (hb hby d11_16) rfl (feq hb3).2 (by decide) (by decide) k) ?_
      show Goes p e below QQ (TJ2.setTop (mkF m 23 #[rv a1, iv p2, iv p3, iv p4, iv p5] []))
      refine Goes.on (fun t k => XS.iconst XJ2.here hx rfl (hb hby d11_23) k) ?_
      show Goes p e below QQ (TJ2.setTop (mkF m 24 #[rv a1, iv p2, iv p3, iv p4, iv p5] [(.int 0)]))
      have hv : nar .boolean (0 : Int32) = (0 : Int32) := rfl
      exact Goes.rN XJ2 hx (t := .boolean) hret (by simp) hlk (hb hby d11_24) hQQ ⟨congrArg (fun z => some (Value.int z)) (hv.trans (((if_neg hb3).trans rfl) : (cellF p2 p3 p4 p5 x0) = (0 : Int32)).symm), NJ2, eJ2⟩ (by decide) (by decide)
  show Goes p e below QQ (s₁.setTop (mkF m 5 #[rv a1, iv p2, iv p3, iv p4, iv p5] [(.int p3), (.int p2), (.int x0)]))
  by_cases hb4 : p2 = p3
  · refine Goes.on (fun t k => XS.icmpNo X0.here hx rfl (hb hby d11_5) rfl (teq hb4).2 k) ?_
    show Goes p e below QQ (s₁.setTop (mkF m 8 #[rv a1, iv p2, iv p3, iv p4, iv p5] [(.int x0)]))
    refine Goes.on (fun t k => XS.iloadN X0.here hx rfl (hb hby d11_8) rfl k) ?_
    show Goes p e below QQ (s₁.setTop (mkF m 9 #[rv a1, iv p2, iv p3, iv p4, iv p5] [(.int p4), (.int x0)]))
    refine Goes.on (fun t k => XS.goto X0.here hx rfl (pc0 := 9) (pc' := 16) rfl (hb hby d11_9) (by decide) (by decide) k) ?_
    show Goes p e below QQ (s₁.setTop (mkF m 16 #[rv a1, iv p2, iv p3, iv p4, iv p5] [(.int p4), (.int x0)]))
    rw [(((if_pos hb4).trans rfl) : (if p2 = p3 then p4 else (p5 + p2)) = p4)] at J2
    exact J2 _ _ X0 e0 N0
  · refine Goes.on (fun t k => XS.icmpYes X0.here hx rfl (pc0 := 5) (pc' := 12) rfl (hb hby d11_5) rfl (feq hb4).2 (by decide) (by decide) k) ?_
    show Goes p e below QQ (s₁.setTop (mkF m 12 #[rv a1, iv p2, iv p3, iv p4, iv p5] [(.int x0)]))
    refine Goes.on (fun t k => XS.iload X0.here hx rfl (hb hby d11_12) rfl k) ?_
    show Goes p e below QQ (s₁.setTop (mkF m 14 #[rv a1, iv p2, iv p3, iv p4, iv p5] [(.int p5), (.int x0)]))
    refine Goes.on (fun t k => XS.iloadN X0.here hx rfl (hb hby d11_14) rfl k) ?_
    show Goes p e below QQ (s₁.setTop (mkF m 15 #[rv a1, iv p2, iv p3, iv p4, iv p5] [(.int p2), (.int p5), (.int x0)]))
    refine Goes.on (fun t k => XS.iadd X0.here hx rfl (hb hby d11_15) rfl k) ?_
    show Goes p e below QQ (s₁.setTop (mkF m 16 #[rv a1, iv p2, iv p3, iv p4, iv p5] [(.int (p5 + p2)), (.int x0)]))
    rw [(((if_neg hb4).trans rfl) : (if p2 = p3 then p4 else (p5 + p2)) = (p5 + p2))] at J2
    exact J2 _ _ X0 e0 N0
theorem own_cell (j vv xx ini bb : Int32) (hB : bb = ini + j) : cellF j vv xx ini (if vv = j then xx else bb) = 1 := by
  unfold cellF
  subst hB
  by_cases hq : j = vv
  · subst hq; simp
  · have hr : ¬ vv = j := fun z => hq z.symm
    simp [hq, hr]
theorem d9_0 : decode method_4_code 0 = .ok (.iload_n 0, 1) := by decide +kernel
theorem d9_1 : decode method_4_code 1 = .ok (.iload_n 2, 1) := by decide +kernel
theorem d9_2 : decode method_4_code 2 = .ok (.iload_n 3, 1) := by decide +kernel
theorem d9_3 : decode method_4_code 3 = .ok (.if_icmp .ge 7, 3) := by decide +kernel
theorem d9_6 : decode method_4_code 6 = .ok (.iconst 1, 1) := by decide +kernel
theorem d9_7 : decode method_4_code 7 = .ok (.goto 4, 3) := by decide +kernel
theorem d9_10 : decode method_4_code 10 = .ok (.iconst 0, 1) := by decide +kernel
theorem d9_11 : decode method_4_code 11 = .ok (.if_icmp .eq 5, 3) := by decide +kernel
theorem d9_14 : decode method_4_code 14 = .ok (.iconst 0, 1) := by decide +kernel
theorem d9_15 : decode method_4_code 15 = .ok (.ireturn, 1) := by decide +kernel
theorem d9_16 : decode method_4_code 16 = .ok (.iload_n 2, 1) := by decide +kernel
theorem d9_17 : decode method_4_code 17 = .ok (.iload_n 3, 1) := by decide +kernel
theorem d9_18 : decode method_4_code 18 = .ok (.iload 4, 2) := by decide +kernel
theorem d9_20 : decode method_4_code 20 = .ok (.iload 5, 2) := by decide +kernel
theorem d9_22 : decode method_4_code 22 = .ok (.iload 6, 2) := by decide +kernel
theorem d9_24 : decode method_4_code 24 = .ok (.iload 7, 2) := by decide +kernel
theorem d9_26 : decode method_4_code 26 = .ok (.iload 8, 2) := by decide +kernel
theorem d9_28 : decode method_4_code 28 = .ok (.invokestatic 26, 3) := by decide +kernel
theorem d9_31 : decode method_4_code 31 = .ok (.istore 9, 2) := by decide +kernel
theorem d9_33 : decode method_4_code 33 = .ok (.aload_n 1, 1) := by decide +kernel
theorem d9_34 : decode method_4_code 34 = .ok (.iconst 0, 1) := by decide +kernel
theorem d9_35 : decode method_4_code 35 = .ok (.iload 4, 2) := by decide +kernel
theorem d9_37 : decode method_4_code 37 = .ok (.iload 9, 2) := by decide +kernel
theorem d9_39 : decode method_4_code 39 = .ok (.iload 8, 2) := by decide +kernel
theorem d9_41 : decode method_4_code 41 = .ok (.invokestatic 30, 3) := by decide +kernel
theorem d9_44 : decode method_4_code 44 = .ok (.ifCond .eq 49, 3) := by decide +kernel
theorem d9_47 : decode method_4_code 47 = .ok (.aload_n 1, 1) := by decide +kernel
theorem d9_48 : decode method_4_code 48 = .ok (.iconst 1, 1) := by decide +kernel
theorem d9_49 : decode method_4_code 49 = .ok (.iload 4, 2) := by decide +kernel
theorem d9_51 : decode method_4_code 51 = .ok (.iload 9, 2) := by decide +kernel
theorem d9_53 : decode method_4_code 53 = .ok (.iload 8, 2) := by decide +kernel
theorem d9_55 : decode method_4_code 55 = .ok (.invokestatic 30, 3) := by decide +kernel
theorem d9_58 : decode method_4_code 58 = .ok (.ifCond .eq 35, 3) := by decide +kernel
theorem d9_61 : decode method_4_code 61 = .ok (.aload_n 1, 1) := by decide +kernel
theorem d9_62 : decode method_4_code 62 = .ok (.iconst 2, 1) := by decide +kernel
theorem d9_63 : decode method_4_code 63 = .ok (.iload 4, 2) := by decide +kernel
theorem d9_65 : decode method_4_code 65 = .ok (.iload 9, 2) := by decide +kernel
theorem d9_67 : decode method_4_code 67 = .ok (.iload 8, 2) := by decide +kernel
theorem d9_69 : decode method_4_code 69 = .ok (.invokestatic 30, 3) := by decide +kernel
theorem d9_72 : decode method_4_code 72 = .ok (.ifCond .eq 21, 3) := by decide +kernel
theorem d9_75 : decode method_4_code 75 = .ok (.aload_n 1, 1) := by decide +kernel
theorem d9_76 : decode method_4_code 76 = .ok (.iconst 3, 1) := by decide +kernel
theorem d9_77 : decode method_4_code 77 = .ok (.iload 4, 2) := by decide +kernel
theorem d9_79 : decode method_4_code 79 = .ok (.iload 9, 2) := by decide +kernel
theorem d9_81 : decode method_4_code 81 = .ok (.iload 8, 2) := by decide +kernel
theorem d9_83 : decode method_4_code 83 = .ok (.invokestatic 30, 3) := by decide +kernel
theorem d9_86 : decode method_4_code 86 = .ok (.ifCond .eq 7, 3) := by decide +kernel
theorem d9_89 : decode method_4_code 89 = .ok (.iconst 1, 1) := by decide +kernel
theorem d9_90 : decode method_4_code 90 = .ok (.goto 4, 3) := by decide +kernel
theorem d9_93 : decode method_4_code 93 = .ok (.iconst 0, 1) := by decide +kernel
theorem d9_94 : decode method_4_code 94 = .ok (.ireturn, 1) := by decide +kernel
theorem pn_9 : plainFor (⟨"com/example/clew/clew/algebra/MembersAdvancePinLaw", "stepOk", "(Z[IIIIIIII)Z"⟩ : MethodName) = true := plainFor_of_name (show plainName "com/example/clew/clew/algebra/MembersAdvancePinLaw" = true by first | (simp [plainName, overriddenIn]; done) | decide +kernel)
theorem ef_rmSO (m : MethodId) (x0 : Int32) (x1 : Addr) (x2 : Int32) (x3 : Int32) (x4 : Int32) (x5 : Int32) (x6 : Int32) (x7 : Int32) (x8 : Int32) : entryFrame m #[(.int x0), (.ref x1), (.int x2), (.int x3), (.int x4), (.int x5), (.int x6), (.int x7), (.int x8)] 10 = mkF m 0 #[iv x0, rv x1, iv x2, iv x3, iv x4, iv x5, iv x6, iv x7, iv x8, .unset] [] := by first | (simp [entryFrame, mkF, argsToLocals, Value.category]; done) | rfl
theorem pd_2 : parseMethodDescriptor "(IIIIIII)I" = some ⟨[.int, .int, .int, .int, .int, .int, .int], some .int⟩ := by decide +kernel
theorem pd_3 : parseMethodDescriptor "([IIIII)Z" = some ⟨[(.array .int), .int, .int, .int, .int], some .boolean⟩ := by decide +kernel
set_option maxRecDepth 65536 in
set_option maxHeartbeats 40000000 in
theorem rmSO (l : Launch) (Z : State) (a0 : Array Value) (hw : ∀ d ∈ tables_1, d.before a0 Z = true) (ws : List Jvm.Cond) (p1 : Int32) (a2 : Addr) (p3 p4 p5 p6 p7 p8 p9 : Int32) (kk : ClassId) (xx : Int32) (h0 : Heap) (n0 : Nat) (Z0 : n0 ≤ h0.size) (V_a2 : Arv Z h0 a2 kk .int (4 : Int32) ([(.int p9), (.int (p9 + (1 : Int32))), (.int (p9 + (2 : Int32))), (.int (p9 + (3 : Int32)))].set p5.toNatClampNeg (.int xx)) (.int 0)) (hv4 : p5 = (0 : Int32) ∨ p5 = (1 : Int32) ∨ p5 = (2 : Int32) ∨ p5 = (3 : Int32)) (hans : p1 = (if p3 < p4 then (1 : Int32) else (0 : Int32))) (hexp : (expF p3 p4 p5 p6 p7 p8 p9) = xx) :
    MetFree l (⟨"com/example/clew/clew/algebra/MembersAdvancePinLaw", "stepOk", "(Z[IIIIIIII)Z"⟩ : MethodName) (head1 (Jvm.Cond.code (⟨"com/example/clew/clew/algebra/MembersAdvancePinLaw", "stepOk", "(Z[IIIIIIII)Z"⟩ : MethodName) method_4_code 10 (some .boolean) :: ws) ({ frames := 1, cells := 0, slots := 0, locals := 18 } : Room)) (fun a U => a = #[(.int p1), (.ref a2), (.int p3), (.int p4), (.int p5), (.int p6), (.int p7), (.int p8), (.int p9)] ∧ Z.Warmed39 U.vm ∧ U.heap = h0) (fun _ _ _ _ _ => True) (fun _ U o U' => ∃ v L, o = .returned v ∧ QP (.int (1 : Int32)) h0 n0 v U'.heap L ∧ FrameEnd U o U' L ({ frames := 1, cells := 0, slots := 0, locals := 18 } : Room).cells ({ frames := 1, cells := 0, slots := 0, locals := 18 } : Room).slots) := by
  refine own_enter pn_9 ?_
  intro p e s m below meth c s₁ QQ hQQ hx hby hml hown hnm hret hlk hZ X0 e0
  have hown : s.vm.findClass "com/example/clew/clew/algebra/MembersAdvancePinLaw" = some m.cls := hown
  have hml : c.maxLocals = 10 := hml
  have hret : meth.sig.returnType = some .boolean := hret
  have N0 := Fr.nil n0
  have K0 := Keep.refl h0 []
  refine Goes.cast (ef_rmSO m p1 a2 p3 p4 p5 p6 p7 p8 p9) ?_
  show Goes p e below QQ (s₁.setTop (mkF m 0 #[iv p1, rv a2, iv p3, iv p4, iv p5, iv p6, iv p7, iv p8, iv p9, .unset] []))
  refine Goes.on (fun t k => XS.iloadN X0.here hx rfl (hb hby d9_0) rfl k) ?_
  show Goes p e below QQ (s₁.setTop (mkF m 1 #[iv p1, rv a2, iv p3, iv p4, iv p5, iv p6, iv p7, iv p8, iv p9, .unset] [(.int p1)]))
  refine Goes.on (fun t k => XS.iloadN X0.here hx rfl (hb hby d9_1) rfl k) ?_
  show Goes p e below QQ (s₁.setTop (mkF m 2 #[iv p1, rv a2, iv p3, iv p4, iv p5, iv p6, iv p7, iv p8, iv p9, .unset] [(.int p3), (.int p1)]))
  refine Goes.on (fun t k => XS.iloadN X0.here hx rfl (hb hby d9_2) rfl k) ?_
  show Goes p e below QQ (s₁.setTop (mkF m 3 #[iv p1, rv a2, iv p3, iv p4, iv p5, iv p6, iv p7, iv p8, iv p9, .unset] [(.int p4), (.int p3), (.int p1)]))
  have J1 : ∀ (TJ1 : State) (lJ1 : List Loc), Stand p l e ({ frames := 1, cells := 0, slots := 0, locals := 18 } : Room) s m #[(.int p1), (.ref a2), (.int p3), (.int p4), (.int p5), (.int p6), (.int p7), (.int p8), (.int p9)] below meth c TJ1 lJ1 0 0 → TJ1.heap = h0 → Fr n0 lJ1 → Goes p e below QQ (TJ1.setTop (mkF m 11 #[iv p1, rv a2, iv p3, iv p4, iv p5, iv p6, iv p7, iv p8, iv p9, .unset] [(.int (if p3 < p4 then (1 : Int32) else (0 : Int32))), (.int p1)])) := by
    intro TJ1 lJ1 XJ1 eJ1 NJ1
    refine Goes.on (fun t k => XS.icmpYes XJ1.here hx rfl (pc0 := 11) (pc' := 16) rfl (hb hby d9_11) rfl (teq hans).1 (by decide) (by decide) k) ?_
    show Goes p e below QQ (TJ1.setTop (mkF m 16 #[iv p1, rv a2, iv p3, iv p4, iv p5, iv p6, iv p7, iv p8, iv p9, .unset] []))
    refine Goes.on (fun t k => XS.iloadN XJ1.here hx rfl (hb hby d9_16) rfl k) ?_
    show Goes p e below QQ (TJ1.setTop (mkF m 17 #[iv p1, rv a2, iv p3, iv p4, iv p5, iv p6, iv p7, iv p8, iv p9, .unset] [(.int p3)]))
    refine Goes.on (fun t k => XS.iloadN XJ1.here hx rfl (hb hby d9_17) rfl k) ?_
    show Goes p e below QQ (TJ1.setTop (mkF m 18 #[iv p1, rv a2, iv p3, iv p4, iv p5, iv p6, iv p7, iv p8, iv p9, .unset] [(.int p4), (.int p3)]))
    refine Goes.on (fun t k => XS.iload XJ1.here hx rfl (hb hby d9_18) rfl k) ?_
    show Goes p e below QQ (TJ1.setTop (mkF m 20 #[iv p1, rv a2, iv p3, iv p4, iv p5, iv p6, iv p7, iv p8, iv p9, .unset] [(.int p5), (.int p4), (.int p3)]))
    refine Goes.on (fun t k => XS.iload XJ1.here hx rfl (hb hby d9_20) rfl k) ?_
    show Goes p e below QQ (TJ1.setTop (mkF m 22 #[iv p1, rv a2, iv p3, iv p4, iv p5, iv p6, iv p7, iv p8, iv p9, .unset] [(.int p6), (.int p5), (.int p4), (.int p3)]))
    refine Goes.on (fun t k => XS.iload XJ1.here hx rfl (hb hby d9_22) rfl k) ?_
    show Goes p e below QQ (TJ1.setTop (mkF m 24 #[iv p1, rv a2, iv p3, iv p4, iv p5, iv p6, iv p7, iv p8, iv p9, .unset] [(.int p7), (.int p6), (.int p5), (.int p4), (.int p3)]))
    refine Goes.on (fun t k => XS.iload XJ1.here hx rfl (hb hby d9_24) rfl k) ?_
    show Goes p e below QQ (TJ1.setTop (mkF m 26 #[iv p1, rv a2, iv p3, iv p4, iv p5, iv p6, iv p7, iv p8, iv p9, .unset] [(.int p8), (.int p7), (.int p6), (.int p5), (.int p4), (.int p3)]))
    refine Goes.on (fun t k => XS.iload XJ1.here hx rfl (hb hby d9_26) rfl k) ?_
    show Goes p e below QQ (TJ1.setTop (mkF m 28 #[iv p1, rv a2, iv p3, iv p4, iv p5, iv p6, iv p7, iv p8, iv p9, .unset] [(.int p9), (.int p8), (.int p7), (.int p6), (.int p5), (.int p4), (.int p3)]))
    obtain ⟨_, _, ⟨T2, L2, k2, n2⟩, -, X2, ⟨Lc2, hQ2, l2, y2, z2⟩, st2⟩ := Jvm.LawKit.callS XJ1 hx (y := (⟨"com/example/clew/clew/algebra/MembersAdvancePinLaw", "expectedAt", "(IIIIIII)I"⟩ : MethodName)) hown (mvT hZ (hw _ (List.mem_of_getElem? (i := 67) rfl))) (mvT hZ (hw _ (List.mem_of_getElem? (i := 68) rfl))) (mvT hZ (hw _ (List.mem_of_getElem? (i := 65) rfl))) (mvT hZ (hw _ (List.mem_of_getElem? (i := 69) rfl))) (by decide) (backOf (W := 0) (rmEx l Z a0 hw [] p3 p4 p5 p6 p7 p8 p9 h0 n0 (Nat.le_trans Z0 K0.1) ) hZ (hw _ (List.mem_of_getElem? (i := 69) rfl)) (hw _ (List.mem_of_getElem? (i := 65) rfl)) (by decide) (by decide)) (g := (mkF m 28 #[iv p1, rv a2, iv p3, iv p4, iv p5, iv p6, iv p7, iv p8, iv p9, .unset] [(.int p9), (.int p8), (.int p7), (.int p6), (.int p5), (.int p4), (.int p3)])) rfl (by rw [hml]; rfl) (argsL := [(.int p3), (.int p4), (.int p5), (.int p6), (.int p7), (.int p8), (.int p9)]) (rest := []) (lenOf pd_2 rfl) rfl (by show 2 * 0 + _ ≤ _; exact Nat.le_of_eq rfl) (hb hby d9_28) (fun _ _ => ⟨rfl, eJ1, (by decide : 0 + 0 ≤ _), (by decide : 0 + 0 ≤ _)⟩)
    dsimp only [Pt.U, Pt.locs, Pt.cells, Pt.slots] at X2 l2 y2 z2 st2 hQ2
    subst l2 y2 z2
    obtain ⟨rfl, M2, e2⟩ := hQ2
    have N2 := Fr.app NJ1 M2
    refine Goes.on (fun t k => st2 _ k) ?_
    show Goes p e below QQ (T2.setTop (mkF m 31 #[iv p1, rv a2, iv p3, iv p4, iv p5, iv p6, iv p7, iv p8, iv p9, .unset] [(.int (expF p3 p4 p5 p6 p7 p8 p9))]))
    rw [hexp]
    show Goes p e below QQ (T2.setTop (mkF m 31 #[iv p1, rv a2, iv p3, iv p4, iv p5, iv p6, iv p7, iv p8, iv p9, .unset] [(.int xx)]))
    refine Goes.on (fun t k => XS.istore X2.here hx rfl (hb hby d9_31) rfl (l' := #[iv p1, rv a2, iv p3, iv p4, iv p5, iv p6, iv p7, iv p8, iv p9, iv xx]) rfl k) ?_
    show Goes p e below QQ (T2.setTop (mkF m 33 #[iv p1, rv a2, iv p3, iv p4, iv p5, iv p6, iv p7, iv p8, iv p9, iv xx] []))
    refine Goes.on (fun t k => XS.aloadN X2.here hx rfl (hb hby d9_33) rfl rfl k) ?_
    show Goes p e below QQ (T2.setTop (mkF m 34 #[iv p1, rv a2, iv p3, iv p4, iv p5, iv p6, iv p7, iv p8, iv p9, iv xx] [(.ref a2)]))
    refine Goes.on (fun t k => XS.iconst X2.here hx rfl (hb hby d9_34) k) ?_
    show Goes p e below QQ (T2.setTop (mkF m 35 #[iv p1, rv a2, iv p3, iv p4, iv p5, iv p6, iv p7, iv p8, iv p9, iv xx] [(.int 0), (.ref a2)]))
    refine Goes.on (fun t k => XS.iload X2.here hx rfl (hb hby d9_35) rfl k) ?_
    show Goes p e below QQ (T2.setTop (mkF m 37 #[iv p1, rv a2, iv p3, iv p4, iv p5, iv p6, iv p7, iv p8, iv p9, iv xx] [(.int p5), (.int 0), (.ref a2)]))
    refine Goes.on (fun t k => XS.iload X2.here hx rfl (hb hby d9_37) rfl k) ?_
    show Goes p e below QQ (T2.setTop (mkF m 39 #[iv p1, rv a2, iv p3, iv p4, iv p5, iv p6, iv p7, iv p8, iv p9, iv xx] [(.int xx), (.int p5), (.int 0), (.ref a2)]))
    refine Goes.on (fun t k => XS.iload X2.here hx rfl (hb hby d9_39) rfl k) ?_
    show Goes p e below QQ (T2.setTop (mkF m 41 #[iv p1, rv a2, iv p3, iv p4, iv p5, iv p6, iv p7, iv p8, iv p9, iv xx] [(.int p9), (.int xx), (.int p5), (.int 0), (.ref a2)]))
    obtain ⟨_, _, ⟨T3, L3, k3, n3⟩, -, X3, ⟨Lc3, hQ3, l3, y3, z3⟩, st3⟩ := Jvm.LawKit.callS X2 hx (y := (⟨"com/example/clew/clew/algebra/MembersAdvancePinLaw", "cell", "([IIIII)Z"⟩ : MethodName)) hown (mvT hZ (hw _ (List.mem_of_getElem? (i := 70) rfl))) (mvT hZ (hw _ (List.mem_of_getElem? (i := 71) rfl))) (mvT hZ (hw _ (List.mem_of_getElem? (i := 65) rfl))) (mvT hZ (hw _ (List.mem_of_getElem? (i := 72) rfl))) (by decide) (backOf (W := 0) (rmCe l Z a0 hw [] a2 (0 : Int32) p5 xx p9 kk (4 : Int32) ([(.int p9), (.int (p9 + (1 : Int32))), (.int (p9 + (2 : Int32))), (.int (p9 + (3 : Int32)))].set p5.toNatClampNeg (.int xx)) (if p5 = (0 : Int32) then xx else p9) h0 n0 (Nat.le_trans Z0 K0.1) V_a2 ⟨by decide, by decide⟩ (by rcases hv4 with rfl | rfl | rfl | rfl <;> rfl)) hZ (hw _ (List.mem_of_getElem? (i := 72) rfl)) (hw _ (List.mem_of_getElem? (i := 65) rfl)) (by decide) (by decide)) (g := (mkF m 41 #[iv p1, rv a2, iv p3, iv p4, iv p5, iv p6, iv p7, iv p8, iv p9, iv xx] [(.int p9), (.int xx), (.int p5), (.int 0), (.ref a2)])) rfl (by rw [hml]; rfl) (argsL := [(.ref a2), (.int 0), (.int p5), (.int xx), (.int p9)]) (rest := []) (lenOf pd_3 rfl) rfl (by show 2 * 0 + _ ≤ _; exact Nat.le_of_eq rfl) (hb hby d9_41) (fun _ _ => ⟨rfl, e2, (by decide : 0 + 0 ≤ _), (by decide : 0 + 0 ≤ _)⟩)
    dsimp only [Pt.U, Pt.locs, Pt.cells, Pt.slots] at X3 l3 y3 z3 st3 hQ3
    subst l3 y3 z3
    obtain ⟨rfl, M3, e3⟩ := hQ3
    have N3 := Fr.app N2 M3
    refine Goes.on (fun t k => st3 _ k) ?_
    show Goes p e below QQ (T3.setTop (mkF m 44 #[iv p1, rv a2, iv p3, iv p4, iv p5, iv p6, iv p7, iv p8, iv p9, iv xx] [(.int (cellF (0 : Int32) p5 xx p9 (if p5 = (0 : Int32) then xx else p9)))]))
    rw [(own_cell (0 : Int32) p5 xx p9 p9 (Int32.add_zero p9).symm)]
    show Goes p e below QQ (T3.setTop (mkF m 44 #[iv p1, rv a2, iv p3, iv p4, iv p5, iv p6, iv p7, iv p8, iv p9, iv xx] [(.int 1)]))
    refine Goes.on (fun t k => XS.ifNo X3.here hx rfl (hb hby d9_44) rfl ((if0 _ _).trans (feq (by decide)).1) k) ?_
    show Goes p e below QQ (T3.setTop (mkF m 47 #[iv p1, rv a2, iv p3, iv p4, iv p5, iv p6, iv p7, iv p8, iv p9, iv xx] []))
    refine Goes.on (fun t k => XS.aloadN X3.here hx rfl (hb hby d9_47) rfl rfl k) ?_
    show Goes p e below QQ (T3.setTop (mkF m 48 #[iv p1, rv a2, iv p3, iv p4, iv p5, iv p6, iv p7, iv p8, iv p9, iv xx] [(.ref a2)]))
    refine Goes.on (fun t k => XS.iconst X3.here hx rfl (hb hby d9_48) k) ?_
    show Goes p e below QQ (T3.setTop (mkF m 49 #[iv p1, rv a2, iv p3, iv p4, iv p5, iv p6, iv p7, iv p8, iv p9, iv xx] [(.int 1), (.ref a2)]))
    refine Goes.on (fun t k => XS.iload X3.here hx rfl (hb hby d9_49) rfl k) ?_
    show Goes p e below QQ (T3.setTop (mkF m 51 #[iv p1, rv a2, iv p3, iv p4, iv p5, iv p6, iv p7, iv p8, iv p9, iv xx] [(.int p5), (.int 1), (.ref a2)]))
    refine Goes.on (fun t k => XS.iload X3.here hx rfl (hb hby d9_51) rfl k) ?_
    show Goes p e below QQ (T3.setTop (mkF m 53 #[iv p1, rv a2, iv p3, iv p4, iv p5, iv p6, iv p7, iv p8, iv p9, iv xx] [(.int xx), (.int p5), (.int 1), (.ref a2)]))
    refine Goes.on (fun t k => XS.iload X3.here hx rfl (hb hby d9_53) rfl k) ?_
    show Goes p e below QQ (T3.setTop (mkF m 55 #[iv p1, rv a2, iv p3, iv p4, iv p5, iv p6, iv p7, iv p8, iv p9, iv xx] [(.int p9), (.int xx), (.int p5), (.int 1), (.ref a2)]))
    obtain ⟨_, _, ⟨T4, L4, k4, n4⟩, -, X4, ⟨Lc4, hQ4, l4, y4, z4⟩, st4⟩ := Jvm.LawKit.callS X3 hx (y := (⟨"com/example/clew/clew/algebra/MembersAdvancePinLaw", "cell", "([IIIII)Z"⟩ : MethodName)) hown (mvT hZ (hw _ (List.mem_of_getElem? (i := 70) rfl))) (mvT hZ (hw _ (List.mem_of_getElem? (i := 71) rfl))) (mvT hZ (hw _ (List.mem_of_getElem? (i := 65) rfl))) (mvT hZ (hw _ (List.mem_of_getElem? (i := 72) rfl))) (by decide) (backOf (W := 0) (rmCe l Z a0 hw [] a2 (1 : Int32) p5 xx p9 kk (4 : Int32) ([(.int p9), (.int (p9 + (1 : Int32))), (.int (p9 + (2 : Int32))), (.int (p9 + (3 : Int32)))].set p5.toNatClampNeg (.int xx)) (if p5 = (1 : Int32) then xx else (p9 + (1 : Int32))) h0 n0 (Nat.le_trans Z0 K0.1) V_a2 ⟨by decide, by decide⟩ (by rcases hv4 with rfl | rfl | rfl | rfl <;> rfl)) hZ (hw _ (List.mem_of_getElem? (i := 72) rfl)) (hw _ (List.mem_of_getElem? (i := 65) rfl)) (by decide) (by decide)) (g := (mkF m 55 #[iv p1, rv a2, iv p3, iv p4, iv p5, iv p6, iv p7, iv p8, iv p9, iv xx] [(.int p9), (.int xx), (.int p5), (.int 1), (.ref a2)])) rfl (by rw [hml]; rfl) (argsL := [(.ref a2), (.int 1), (.int p5), (.int xx), (.int p9)]) (rest := []) (lenOf pd_3 rfl) rfl (by show 2 * 0 + _ ≤ _; exact Nat.le_of_eq rfl) (hb hby d9_55) (fun _ _ => ⟨rfl, e3, (by decide : 0 + 0 ≤ _), (by decide : 0 + 0 ≤ _)⟩)
    dsimp only [Pt.U, Pt.locs, Pt.cells, Pt.slots] at X4 l4 y4 z4 st4 hQ4
    subst l4 y4 z4
    obtain ⟨rfl, M4, e4⟩ := hQ4
    have N4 := Fr.app N3 M4
    refine Goes.on (fun t k => st4 _ k) ?_
    show Goes p e below QQ (T4.setTop (mkF m 58 #[iv p1, rv a2, iv p3, iv p4, iv p5, iv p6, iv p7, iv p8, iv p9, iv xx] [(.int (cellF (1 : Int32) p5 xx p9 (if p5 = (1 : Int32) then xx else (p9 + (1 : Int32)))))]))
    rw [(own_cell (1 : Int32) p5 xx p9 (p9 + (1 : Int32)) rfl)]
    show Goes p e below QQ (T4.setTop (mkF m 58 #[iv p1, rv a2, iv p3, iv p4, iv p5, iv p6, iv p7, iv p8, iv p9, iv xx] [(.int 1)]))
    refine Goes.on (fun t k => XS.ifNo X4.here hx rfl (hb hby d9_58) rfl ((if0 _ _).trans (feq (by decide)).1) k) ?_
    show Goes p e below QQ (T4.setTop (mkF m 61 #[iv p1, rv a2, iv p3, iv p4, iv p5, iv p6, iv p7, iv p8, iv p9, iv xx] []))
    refine Goes.on (fun t k => XS.aloadN X4.here hx rfl (hb hby d9_61) rfl rfl k) ?_
    show Goes p e below QQ (T4.setTop (mkF m 62 #[iv p1, rv a2, iv p3, iv p4, iv p5, iv p6, iv p7, iv p8, iv p9, iv xx] [(.ref a2)]))
    refine Goes.on (fun t k => XS.iconst X4.here hx rfl (hb hby d9_62) k) ?_
    show Goes p e below QQ (T4.setTop (mkF m 63 #[iv p1, rv a2, iv p3, iv p4, iv p5, iv p6, iv p7, iv p8, iv p9, iv xx] [(.int 2), (.ref a2)]))
    refine Goes.on (fun t k => XS.iload X4.here hx rfl (hb hby d9_63) rfl k) ?_
    show Goes p e below QQ (T4.setTop (mkF m 65 #[iv p1, rv a2, iv p3, iv p4, iv p5, iv p6, iv p7, iv p8, iv p9, iv xx] [(.int p5), (.int 2), (.ref a2)]))
    refine Goes.on (fun t k => XS.iload X4.here hx rfl (hb hby d9_65) rfl k) ?_
    show Goes p e below QQ (T4.setTop (mkF m 67 #[iv p1, rv a2, iv p3, iv p4, iv p5, iv p6, iv p7, iv p8, iv p9, iv xx] [(.int xx), (.int p5), (.int 2), (.ref a2)]))
    refine Goes.on (fun t k => XS.iload X4.here hx rfl (hb hby d9_67) rfl k) ?_
    show Goes p e below QQ (T4.setTop (mkF m 69 #[iv p1, rv a2, iv p3, iv p4, iv p5, iv p6, iv p7, iv p8, iv p9, iv xx] [(.int p9), (.int xx), (.int p5), (.int 2), (.ref a2)]))
    obtain ⟨_, _, ⟨T5, L5, k5, n5⟩, -, X5, ⟨Lc5, hQ5, l5, y5, z5⟩, st5⟩ := Jvm.LawKit.callS X4 hx (y := (⟨"com/example/clew/clew/algebra/MembersAdvancePinLaw", "cell", "([IIIII)Z"⟩ : MethodName)) hown (mvT hZ (hw _ (List.mem_of_getElem? (i := 70) rfl))) (mvT hZ (hw _ (List.mem_of_getElem? (i := 71) rfl))) (mvT hZ (hw _ (List.mem_of_getElem? (i := 65) rfl))) (mvT hZ (hw _ (List.mem_of_getElem? (i := 72) rfl))) (by decide) (backOf (W := 0) (rmCe l Z a0 hw [] a2 (2 : Int32) p5 xx p9 kk (4 : Int32) ([(.int p9), (.int (p9 + (1 : Int32))), (.int (p9 + (2 : Int32))), (.int (p9 + (3 : Int32)))].set p5.toNatClampNeg (.int xx)) (if p5 = (2 : Int32) then xx else (p9 + (2 : Int32))) h0 n0 (Nat.le_trans Z0 K0.1) V_a2 ⟨by decide, by decide⟩ (by rcases hv4 with rfl | rfl | rfl | rfl <;> rfl)) hZ (hw _ (List.mem_of_getElem? (i := 72) rfl)) (hw _ (List.mem_of_getElem? (i := 65) rfl)) (by decide) (by decide)) (g := (mkF m 69 #[iv p1, rv a2, iv p3, iv p4, iv p5, iv p6, iv p7, iv p8, iv p9, iv xx] [(.int p9), (.int xx), (.int p5), (.int 2), (.ref a2)])) rfl (by rw [hml]; rfl) (argsL := [(.ref a2), (.int 2), (.int p5), (.int xx), (.int p9)]) (rest := []) (lenOf pd_3 rfl) rfl (by show 2 * 0 + _ ≤ _; exact Nat.le_of_eq rfl) (hb hby d9_69) (fun _ _ => ⟨rfl, e4, (by decide : 0 + 0 ≤ _), (by decide : 0 + 0 ≤ _)⟩)
    dsimp only [Pt.U, Pt.locs, Pt.cells, Pt.slots] at X5 l5 y5 z5 st5 hQ5
    subst l5 y5 z5
    obtain ⟨rfl, M5, e5⟩ := hQ5
    have N5 := Fr.app N4 M5
    refine Goes.on (fun t k => st5 _ k) ?_
    show Goes p e below QQ (T5.setTop (mkF m 72 #[iv p1, rv a2, iv p3, iv p4, iv p5, iv p6, iv p7, iv p8, iv p9, iv xx] [(.int (cellF (2 : Int32) p5 xx p9 (if p5 = (2 : Int32) then xx else (p9 + (2 : Int32)))))]))
    rw [(own_cell (2 : Int32) p5 xx p9 (p9 + (2 : Int32)) rfl)]
    show Goes p e below QQ (T5.setTop (mkF m 72 #[iv p1, rv a2, iv p3, iv p4, iv p5, iv p6, iv p7, iv p8, iv p9, iv xx] [(.int 1)]))
    refine Goes.on (fun t k => XS.ifNo X5.here hx rfl (hb hby d9_72) rfl ((if0 _ _).trans (feq (by decide)).1) k) ?_
    show Goes p e below QQ (T5.setTop (mkF m 75 #[iv p1, rv a2, iv p3, iv p4, iv p5, iv p6, iv p7, iv p8, iv p9, iv xx] []))
    refine Goes.on (fun t k => XS.aloadN X5.here hx rfl (hb hby d9_75) rfl rfl k) ?_
    show Goes p e below QQ (T5.setTop (mkF m 76 #[iv p1, rv a2, iv p3, iv p4, iv p5, iv p6, iv p7, iv p8, iv p9, iv xx] [(.ref a2)]))
    refine Goes.on (fun t k => XS.iconst X5.here hx rfl (hb hby d9_76) k) ?_
    show Goes p e below QQ (T5.setTop (mkF m 77 #[iv p1, rv a2, iv p3, iv p4, iv p5, iv p6, iv p7, iv p8, iv p9, iv xx] [(.int 3), (.ref a2)]))
    refine Goes.on (fun t k => XS.iload X5.here hx rfl (hb hby d9_77) rfl k) ?_
    show Goes p e below QQ (T5.setTop (mkF m 79 #[iv p1, rv a2, iv p3, iv p4, iv p5, iv p6, iv p7, iv p8, iv p9, iv xx] [(.int p5), (.int 3), (.ref a2)]))
    refine Goes.on (fun t k => XS.iload X5.here hx rfl (hb hby d9_79) rfl k) ?_
    show Goes p e below QQ (T5.setTop (mkF m 81 #[iv p1, rv a2, iv p3, iv p4, iv p5, iv p6, iv p7, iv p8, iv p9, iv xx] [(.int xx), (.int p5), (.int 3), (.ref a2)]))
    refine Goes.on (fun t k => XS.iload X5.here hx rfl (hb hby d9_81) rfl k) ?_
    show Goes p e below QQ (T5.setTop (mkF m 83 #[iv p1, rv a2, iv p3, iv p4, iv p5, iv p6, iv p7, iv p8, iv p9, iv xx] [(.int p9), (.int xx), (.int p5), (.int 3), (.ref a2)]))
    obtain ⟨_, _, ⟨T6, L6, k6, n6⟩, -, X6, ⟨Lc6, hQ6, l6, y6, z6⟩, st6⟩ := Jvm.LawKit.callS X5 hx (y := (⟨"com/example/clew/clew/algebra/MembersAdvancePinLaw", "cell", "([IIIII)Z"⟩ : MethodName)) hown (mvT hZ (hw _ (List.mem_of_getElem? (i := 70) rfl))) (mvT hZ (hw _ (List.mem_of_getElem? (i := 71) rfl))) (mvT hZ (hw _ (List.mem_of_getElem? (i := 65) rfl))) (mvT hZ (hw _ (List.mem_of_getElem? (i := 72) rfl))) (by decide) (backOf (W := 0) (rmCe l Z a0 hw [] a2 (3 : Int32) p5 xx p9 kk (4 : Int32) ([(.int p9), (.int (p9 + (1 : Int32))), (.int (p9 + (2 : Int32))), (.int (p9 + (3 : Int32)))].set p5.toNatClampNeg (.int xx)) (if p5 = (3 : Int32) then xx else (p9 + (3 : Int32))) h0 n0 (Nat.le_trans Z0 K0.1) V_a2 ⟨by decide, by decide⟩ (by rcases hv4 with rfl | rfl | rfl | rfl <;> rfl)) hZ (hw _ (List.mem_of_getElem? (i := 72) rfl)) (hw _ (List.mem_of_getElem? (i := 65) rfl)) (by decide) (by decide)) (g := (mkF m 83 #[iv p1, rv a2, iv p3, iv p4, iv p5, iv p6, iv p7, iv p8, iv p9, iv xx] [(.int p9), (.int xx), (.int p5), (.int 3), (.ref a2)])) rfl (by rw [hml]; rfl) (argsL := [(.ref a2), (.int 3), (.int p5), (.int xx), (.int p9)]) (rest := []) (lenOf pd_3 rfl) rfl (by show 2 * 0 + _ ≤ _; exact Nat.le_of_eq rfl) (hb hby d9_83) (fun _ _ => ⟨rfl, e5, (by decide : 0 + 0 ≤ _), (by decide : 0 + 0 ≤ _)⟩)
    dsimp only [Pt.U, Pt.locs, Pt.cells, Pt.slots] at X6 l6 y6 z6 st6 hQ6
    subst l6 y6 z6
    obtain ⟨rfl, M6, e6⟩ := hQ6
    have N6 := Fr.app N5 M6
    refine Goes.on (fun t k => st6 _ k) ?_
    show Goes p e below QQ (T6.setTop (mkF m 86 #[iv p1, rv a2, iv p3, iv p4, iv p5, iv p6, iv p7, iv p8, iv p9, iv xx] [(.int (cellF (3 : Int32) p5 xx p9 (if p5 = (3 : Int32) then xx else (p9 + (3 : Int32)))))]))
    rw [(own_cell (3 : Int32) p5 xx p9 (p9 + (3 : Int32)) rfl)]
    show Goes p e below QQ (T6.setTop (mkF m 86 #[iv p1, rv a2, iv p3, iv p4, iv p5, iv p6, iv p7, iv p8, iv p9, iv xx] [(.int 1)]))
    refine Goes.on (fun t k => XS.ifNo X6.here hx rfl (hb hby d9_86) rfl ((if0 _ _).trans (feq (by decide)).1) k) ?_
    show Goes p e below QQ (T6.setTop (mkF m 89 #[iv p1, rv a2, iv p3, iv p4, iv p5, iv p6, iv p7, iv p8, iv p9, iv xx] []))
    refine Goes.on (fun t k => XS.iconst X6.here hx rfl (hb hby d9_89) k) ?_
    show Goes p e below QQ (T6.setTop (mkF m 90 #[iv p1, rv a2, iv p3, iv p4, iv p5, iv p6, iv p7, iv p8, iv p9, iv xx] [(.int 1)]))
    refine Goes.on (fun t k => XS.goto X6.here hx rfl (pc0 := 90) (pc' := 94) rfl (hb hby d9_90) (by decide) (by decide) k) ?_
    show Goes p e below QQ (T6.setTop (mkF m 94 #[iv p1, rv a2, iv p3, iv p4, iv p5, iv p6, iv p7, iv p8, iv p9, iv xx] [(.int 1)]))
    exact Goes.rN X6 hx (t := .boolean) hret (by simp) hlk (hb hby d9_94) hQQ ⟨rfl, N6, e6⟩ (by decide) (by decide)
  show Goes p e below QQ (s₁.setTop (mkF m 3 #[iv p1, rv a2, iv p3, iv p4, iv p5, iv p6, iv p7, iv p8, iv p9, .unset] [(.int p4), (.int p3), (.int p1)]))
  by_cases hb7 : p3 < p4
  · refine Goes.on (fun t k => XS.icmpNo X0.here hx rfl (hb hby d9_3) rfl (tlt hb7).2.1 k) ?_
    show Goes p e below QQ (s₁.setTop (mkF m 6 #[iv p1, rv a2, iv p3, iv p4, iv p5, iv p6, iv p7, iv p8, iv p9, .unset] [(.int p1)]))
    refine Goes.on (fun t k => XS.iconst X0.here hx rfl (hb hby d9_6) k) ?_
    show Goes p e below QQ (s₁.setTop (mkF m 7 #[iv p1, rv a2, iv p3, iv p4, iv p5, iv p6, iv p7, iv p8, iv p9, .unset] [(.int 1), (.int p1)]))
    refine Goes.on (fun t k => XS.goto X0.here hx rfl (pc0 := 7) (pc' := 11) rfl (hb hby d9_7) (by decide) (by decide) k) ?_
    show Goes p e below QQ (s₁.setTop (mkF m 11 #[iv p1, rv a2, iv p3, iv p4, iv p5, iv p6, iv p7, iv p8, iv p9, .unset] [(.int 1), (.int p1)]))
    rw [(((if_pos hb7).trans rfl) : (if p3 < p4 then (1 : Int32) else (0 : Int32)) = (1 : Int32))] at J1
    exact J1 _ _ X0 e0 N0
  · refine Goes.on (fun t k => XS.icmpYes X0.here hx rfl (pc0 := 3) (pc' := 10) rfl (hb hby d9_3) rfl (flt hb7).2.1 (by decide) (by decide) k) ?_
    show Goes p e below QQ (s₁.setTop (mkF m 10 #[iv p1, rv a2, iv p3, iv p4, iv p5, iv p6, iv p7, iv p8, iv p9, .unset] [(.int p1)]))
    refine Goes.on (fun t k => XS.iconst X0.here hx rfl (hb hby d9_10) k) ?_
    show Goes p e below QQ (s₁.setTop (mkF m 11 #[iv p1, rv a2, iv p3, iv p4, iv p5, iv p6, iv p7, iv p8, iv p9, .unset] [(.int 0), (.int p1)]))
    rw [(((if_neg hb7).trans rfl) : (if p3 < p4 then (1 : Int32) else (0 : Int32)) = (0 : Int32))] at J1
    exact J1 _ _ X0 e0 N0
theorem own_four (x1 : Int32) : (x1 &&& (3 : Int32)) = (0 : Int32) ∨ (x1 &&& (3 : Int32)) = (1 : Int32) ∨ (x1 &&& (3 : Int32)) = (2 : Int32) ∨ (x1 &&& (3 : Int32)) = (3 : Int32) := by
  have q := c_mask x1 3 2 (by decide) (by decide)
  have e0 : (0 : Int32).toInt = 0 := by decide
  have e1 : (1 : Int32).toInt = 1 := by decide
  have e2 : (2 : Int32).toInt = 2 := by decide
  have e3 : (3 : Int32).toInt = 3 := by decide
  rw [← Int32.toInt_inj, ← Int32.toInt_inj, ← Int32.toInt_inj, ← Int32.toInt_inj, e0, e1, e2, e3]
  omega
theorem own_base (p9 vv : Int32) (hv4 : vv = (0 : Int32) ∨ vv = (1 : Int32) ∨ vv = (2 : Int32) ∨ vv = (3 : Int32)) : ([(.int p9), (.int (p9 + (1 : Int32))), (.int (p9 + (2 : Int32))), (.int (p9 + (3 : Int32)))].set vv.toNatClampNeg (.int (p9 + vv))) = ([(.int p9), (.int (p9 + (1 : Int32))), (.int (p9 + (2 : Int32))), (.int (p9 + (3 : Int32)))] : List Value) := by
  rcases hv4 with rfl | rfl | rfl | rfl
  · rw [Int32.add_zero]; rfl
  · rfl
  · rfl
  · rfl
theorem pn_0 : plainFor x = true := plainFor_of_name (show plainName "com/example/clew/clew/algebra/MembersAdvancePinLaw" = true by first | (simp [plainName, overriddenIn]; done) | decide +kernel)
theorem ef_rm0 (m : MethodId) (x0 : Int32) (x1 : Int32) (x2 : Int32) (x3 : Int32) (x4 : Int32) : entryFrame m #[(.int x0), (.int x1), (.int x2), (.int x3), (.int x4)] maxLocals = mkF m 0 #[iv x0, iv x1, iv x2, iv x3, iv x4, .unset, .unset, .unset, .unset, .unset, .unset, .unset, .unset, .unset, .unset, .unset] [] := by first | (simp [entryFrame, mkF, argsToLocals, Value.category, maxLocals]; done) | rfl
theorem pd_4 : parseMethodDescriptor "([II)V" = some ⟨[(.array .int), .int], none⟩ := by decide +kernel
theorem pd_5 : parseMethodDescriptor "([I)Z" = some ⟨[(.array .int)], some .boolean⟩ := by decide +kernel
theorem pd_6 : parseMethodDescriptor "(Z[IIIIIIII)Z" = some ⟨[.boolean, (.array .int), .int, .int, .int, .int, .int, .int, .int], some .boolean⟩ := by decide +kernel
set_option maxRecDepth 65536 in
set_option maxHeartbeats 40000000 in
theorem rm0 (l : Launch) (Z : State) (a0 : Array Value) (hw : ∀ d ∈ tables_1, d.before a0 Z = true) (ws : List Jvm.Cond) (p1 p2 p3 p4 p5 : Int32) (xD : Addr) (h0 : Heap) (n0 : Nat) (Z0 : n0 ≤ h0.size) (S_DEFAULTCAPACITY_EMPTY_ELEMENTDATA : Sta Z Z.heap "java/util/ArrayList" "DEFAULTCAPACITY_EMPTY_ELEMENTDATA" "[Ljava/lang/Object;" (.ref xD)) (O_0 : Old Z n0 h0) :
    MetFree l x (head1 (Jvm.Cond.code x code maxLocals ret :: ws) room_1) (fun a U => a = #[(.int p1), (.int p2), (.int p3), (.int p4), (.int p5)] ∧ Z.Warmed39 U.vm ∧ U.heap = h0) (fun _ _ _ _ _ => True) (fun _ U o U' => ∃ v L, o = .returned v ∧ QL n0 v U'.heap L ∧ FrameEnd U o U' L 24 128) := by
  refine own_enter pn_0 ?_
  intro p e s m below meth c s₁ QQ hQQ hx hby hml hown hnm hret hlk hZ X0 e0
  have hown : s.vm.findClass "com/example/clew/clew/algebra/MembersAdvancePinLaw" = some m.cls := hown
  have hml : c.maxLocals = 16 := hml
  have hret : meth.sig.returnType = some .boolean := hret
  have N0 := Fr.nil n0
  have K0 := Keep.refl h0 []
  refine Goes.cast (ef_rm0 m p1 p2 p3 p4 p5) ?_
  show Goes p e below QQ (s₁.setTop (mkF m 0 #[iv p1, iv p2, iv p3, iv p4, iv p5, .unset, .unset, .unset, .unset, .unset, .unset, .unset, .unset, .unset, .unset, .unset] []))
  refine Goes.on (fun t k => XS.iload X0.here hx rfl (hb hby at_0) rfl k) ?_
  show Goes p e below QQ (s₁.setTop (mkF m 2 #[iv p1, iv p2, iv p3, iv p4, iv p5, .unset, .unset, .unset, .unset, .unset, .unset, .unset, .unset, .unset, .unset, .unset] [(.int p5)]))
  refine Goes.on (fun t k => XS.iconst X0.here hx rfl (hb hby at_2) k) ?_
  show Goes p e below QQ (s₁.setTop (mkF m 3 #[iv p1, iv p2, iv p3, iv p4, iv p5, .unset, .unset, .unset, .unset, .unset, .unset, .unset, .unset, .unset, .unset, .unset] [(.int 3), (.int p5)]))
  refine Goes.on (fun t k => XS.iand X0.here hx rfl (hb hby at_3) rfl k) ?_
  show Goes p e below QQ (s₁.setTop (mkF m 4 #[iv p1, iv p2, iv p3, iv p4, iv p5, .unset, .unset, .unset, .unset, .unset, .unset, .unset, .unset, .unset, .unset, .unset] [(.int (p5 &&& (3 : Int32)))]))
  refine Goes.on (fun t k => XS.istore X0.here hx rfl (hb hby at_4) rfl (l' := #[iv p1, iv p2, iv p3, iv p4, iv p5, iv (p5 &&& (3 : Int32)), .unset, .unset, .unset, .unset, .unset, .unset, .unset, .unset, .unset, .unset]) rfl k) ?_
  show Goes p e below QQ (s₁.setTop (mkF m 6 #[iv p1, iv p2, iv p3, iv p4, iv p5, iv (p5 &&& (3 : Int32)), .unset, .unset, .unset, .unset, .unset, .unset, .unset, .unset, .unset, .unset] []))
  refine Goes.on (fun t k => XS.iload X0.here hx rfl (hb hby at_6) rfl k) ?_
  show Goes p e below QQ (s₁.setTop (mkF m 8 #[iv p1, iv p2, iv p3, iv p4, iv p5, iv (p5 &&& (3 : Int32)), .unset, .unset, .unset, .unset, .unset, .unset, .unset, .unset, .unset, .unset] [(.int p5)]))
  refine Goes.on (fun t k => XS.iconst X0.here hx rfl (hb hby at_8) k) ?_
  show Goes p e below QQ (s₁.setTop (mkF m 9 #[iv p1, iv p2, iv p3, iv p4, iv p5, iv (p5 &&& (3 : Int32)), .unset, .unset, .unset, .unset, .unset, .unset, .unset, .unset, .unset, .unset] [(.int 2), (.int p5)]))
  refine Goes.on (fun t k => XS.iushr X0.here hx rfl (hb hby at_9) rfl k) ?_
  show Goes p e below QQ (s₁.setTop (mkF m 10 #[iv p1, iv p2, iv p3, iv p4, iv p5, iv (p5 &&& (3 : Int32)), .unset, .unset, .unset, .unset, .unset, .unset, .unset, .unset, .unset, .unset] [(.int ((p5.toUInt32 >>> ((2 : Int32) &&& 31).toUInt32).toInt32))]))
  refine Goes.on (fun t k => XS.iconst X0.here hx rfl (hb hby at_10) k) ?_
  show Goes p e below QQ (s₁.setTop (mkF m 11 #[iv p1, iv p2, iv p3, iv p4, iv p5, iv (p5 &&& (3 : Int32)), .unset, .unset, .unset, .unset, .unset, .unset, .unset, .unset, .unset, .unset] [(.int 3), (.int ((p5.toUInt32 >>> ((2 : Int32) &&& 31).toUInt32).toInt32))]))
  refine Goes.on (fun t k => XS.iand X0.here hx rfl (hb hby at_11) rfl k) ?_
  show Goes p e below QQ (s₁.setTop (mkF m 12 #[iv p1, iv p2, iv p3, iv p4, iv p5, iv (p5 &&& (3 : Int32)), .unset, .unset, .unset, .unset, .unset, .unset, .unset, .unset, .unset, .unset] [(.int (((p5.toUInt32 >>> ((2 : Int32) &&& 31).toUInt32).toInt32) &&& (3 : Int32)))]))
  refine Goes.on (fun t k => XS.istore X0.here hx rfl (hb hby at_12) rfl (l' := #[iv p1, iv p2, iv p3, iv p4, iv p5, iv (p5 &&& (3 : Int32)), iv (((p5.toUInt32 >>> ((2 : Int32) &&& 31).toUInt32).toInt32) &&& (3 : Int32)), .unset, .unset, .unset, .unset, .unset, .unset, .unset, .unset, .unset]) rfl k) ?_
  show Goes p e below QQ (s₁.setTop (mkF m 14 #[iv p1, iv p2, iv p3, iv p4, iv p5, iv (p5 &&& (3 : Int32)), iv (((p5.toUInt32 >>> ((2 : Int32) &&& 31).toUInt32).toInt32) &&& (3 : Int32)), .unset, .unset, .unset, .unset, .unset, .unset, .unset, .unset, .unset] []))
  have hn4 := own_four p5
  have hv4 := own_four ((p5.toUInt32 >>> ((2 : Int32) &&& 31).toUInt32).toInt32)
  generalize (p5 &&& (3 : Int32)) = nn at hn4 ⊢
  generalize (((p5.toUInt32 >>> ((2 : Int32) &&& 31).toUInt32).toInt32) &&& (3 : Int32)) = vv at hv4 ⊢
  show Goes p e below QQ (s₁.setTop (mkF m 14 #[iv p1, iv p2, iv p3, iv p4, iv p5, iv nn, iv vv, .unset, .unset, .unset, .unset, .unset, .unset, .unset, .unset, .unset] []))
  rcases hn4 with rfl | rfl | rfl | rfl
  · show Goes p e below QQ (s₁.setTop (mkF m 14 #[iv p1, iv p2, iv p3, iv p4, iv p5, iv 0, iv vv, .unset, .unset, .unset, .unset, .unset, .unset, .unset, .unset, .unset] []))
    refine Goes.on (fun t k => XS.iload X0.here hx rfl (hb hby at_14) rfl k) ?_
    show Goes p e below QQ (s₁.setTop (mkF m 16 #[iv p1, iv p2, iv p3, iv p4, iv p5, iv 0, iv vv, .unset, .unset, .unset, .unset, .unset, .unset, .unset, .unset, .unset] [(.int 0)]))
    refine Goes.on (fun t k => XS.ifNo X0.here hx rfl (hb hby at_16) rfl ((if0 _ _).trans (teq (by decide)).2) k) ?_
    show Goes p e below QQ (s₁.setTop (mkF m 19 #[iv p1, iv p2, iv p3, iv p4, iv p5, iv 0, iv vv, .unset, .unset, .unset, .unset, .unset, .unset, .unset, .unset, .unset] []))
    refine Goes.on (fun t k => XS.iconst X0.here hx rfl (hb hby at_19) k) ?_
    show Goes p e below QQ (s₁.setTop (mkF m 20 #[iv p1, iv p2, iv p3, iv p4, iv p5, iv 0, iv vv, .unset, .unset, .unset, .unset, .unset, .unset, .unset, .unset, .unset] [(.int 0)]))
    obtain ⟨T1, h1, k1, X1, e1, E1, A1, st1⟩ := newP X0 hx hZ (hw _ (List.mem_of_getElem? (i := 0) rfl)) e0 (g := (mkF m 20 #[iv p1, iv p2, iv p3, iv p4, iv p5, iv 0, iv vv, .unset, .unset, .unset, .unset, .unset, .unset, .unset, .unset, .unset] [(.int 0)])) rfl (hb hby at_20) rfl (by decide) (cap := 0) (by decide) (by decide) (by decide) (by decide)
    obtain ⟨b1, g1⟩ : ∃ z, z = h0.size := ⟨_, rfl⟩
    rw [← g1] at A1 st1
    have sz_b1 : h0.size ≤ b1 := Nat.le_trans K0.1 (Nat.le_of_eq g1.symm)
    have g_b1 : n0 ≤ b1 := Nat.le_trans Z0 sz_b1
    have O_2 := O_0.ext E1
    have K1 := K0.ext E1
    have V_3 : Arv Z h1 b1 k1 .int (0 : Int32) [] (.int 0) := (Arv.new A1 (by decide)).pad (pad_rep [] (.int 0) 0)
    refine Goes.on (fun t k => st1 t k) ?_
    show Goes p e below QQ (T1.setTop (mkF m 22 #[iv p1, iv p2, iv p3, iv p4, iv p5, iv 0, iv vv, .unset, .unset, .unset, .unset, .unset, .unset, .unset, .unset, .unset] [(.ref b1)]))
    refine Goes.on (fun t k => XS.goto X1.here hx rfl (pc0 := 22) (pc' := 76) rfl (hb hby at_22) (by decide) (by decide) k) ?_
    show Goes p e below QQ (T1.setTop (mkF m 76 #[iv p1, iv p2, iv p3, iv p4, iv p5, iv 0, iv vv, .unset, .unset, .unset, .unset, .unset, .unset, .unset, .unset, .unset] [(.ref b1)]))
    refine Goes.on (fun t k => XS.astore X1.here hx rfl (hb hby at_76) rfl rfl (l' := #[iv p1, iv p2, iv p3, iv p4, iv p5, iv 0, iv vv, rv b1, .unset, .unset, .unset, .unset, .unset, .unset, .unset, .unset]) rfl k) ?_
    show Goes p e below QQ (T1.setTop (mkF m 78 #[iv p1, iv p2, iv p3, iv p4, iv p5, iv 0, iv vv, rv b1, .unset, .unset, .unset, .unset, .unset, .unset, .unset, .unset] []))
    refine Goes.on (fun t k => XS.iconst X1.here hx rfl (hb hby at_78) k) ?_
    show Goes p e below QQ (T1.setTop (mkF m 79 #[iv p1, iv p2, iv p3, iv p4, iv p5, iv 0, iv vv, rv b1, .unset, .unset, .unset, .unset, .unset, .unset, .unset, .unset] [(.int 4)]))
    obtain ⟨T4, h4, k4, X4, e4, E4, A4, st4⟩ := newP X1 hx hZ (hw _ (List.mem_of_getElem? (i := 0) rfl)) e1 (g := (mkF m 79 #[iv p1, iv p2, iv p3, iv p4, iv p5, iv 0, iv vv, rv b1, .unset, .unset, .unset, .unset, .unset, .unset, .unset, .unset] [(.int 4)])) rfl (hb hby at_79) rfl (by decide) (cap := 4) (by decide) (by decide) (by decide) (by decide)
    obtain ⟨b4, g4⟩ : ∃ z, z = h1.size := ⟨_, rfl⟩
    rw [← g4] at A4 st4
    have sz_b4 : h0.size ≤ b4 := Nat.le_trans K1.1 (Nat.le_of_eq g4.symm)
    have g_b4 : n0 ≤ b4 := Nat.le_trans Z0 sz_b4
    have ne_b1_b4 : b1 ≠ b4 := Nat.ne_of_lt (Nat.lt_of_lt_of_le V_3.lt (Nat.le_of_eq g4.symm))
    have O_5 := O_2.ext E4
    have V_6 := V_3.ext E4
    have K4 := K1.ext E4
    have V_7 : Arv Z h4 b4 k4 .int (4 : Int32) [(.int 0), (.int 0), (.int 0), (.int 0)] (.int 0) := (Arv.new A4 (by decide)).pad (pad_rep [] (.int 0) 4)
    refine Goes.on (fun t k => st4 t k) ?_
    show Goes p e below QQ (T4.setTop (mkF m 81 #[iv p1, iv p2, iv p3, iv p4, iv p5, iv 0, iv vv, rv b1, .unset, .unset, .unset, .unset, .unset, .unset, .unset, .unset] [(.ref b4)]))
    refine Goes.on (fun t k => XS.dup X4.here hx rfl (hb hby at_81) rfl rfl k) ?_
    show Goes p e below QQ (T4.setTop (mkF m 82 #[iv p1, iv p2, iv p3, iv p4, iv p5, iv 0, iv vv, rv b1, .unset, .unset, .unset, .unset, .unset, .unset, .unset, .unset] [(.ref b4), (.ref b4)]))
    refine Goes.on (fun t k => XS.iconst X4.here hx rfl (hb hby at_82) k) ?_
    show Goes p e below QQ (T4.setTop (mkF m 83 #[iv p1, iv p2, iv p3, iv p4, iv p5, iv 0, iv vv, rv b1, .unset, .unset, .unset, .unset, .unset, .unset, .unset, .unset] [(.int 0), (.ref b4), (.ref b4)]))
    refine Goes.on (fun t k => XS.iloadN X4.here hx rfl (hb hby at_83) rfl k) ?_
    show Goes p e below QQ (T4.setTop (mkF m 84 #[iv p1, iv p2, iv p3, iv p4, iv p5, iv 0, iv vv, rv b1, .unset, .unset, .unset, .unset, .unset, .unset, .unset, .unset] [(.int p4), (.int 0), (.ref b4), (.ref b4)]))
    obtain ⟨cl8, Ar8, aq8, aS8, aN8, aH8, aG8⟩ := id V_7
    have hin8 := inb_of (j := (0 : Int32)) aS8 ⟨by decide, by decide⟩
    obtain ⟨T9, h9, X9, e9, W9, st9⟩ := stI X4 hx hZ e4 Ar8 (j := (0 : Int32)) hin8 (g := (mkF m 84 #[iv p1, iv p2, iv p3, iv p4, iv p5, iv 0, iv vv, rv b1, .unset, .unset, .unset, .unset, .unset, .unset, .unset, .unset] [(.int p4), (.int 0), (.ref b4), (.ref b4)])) rfl rfl (hb hby at_84)
    have O_10 := O_5.wr W9 g_b4
    have V_11 := V_6.other W9 ne_b1_b4
    have K9 := K4.wr W9 (Or.inr sz_b4)
    have N9 := Fr.snoc X9 N0 g_b4
    have V_12 : Arv Z h9 b4 k4 .int (4 : Int32) [(.int p4), (.int 0), (.int 0), (.int 0)] (.int 0) := Arv.set Ar8 aq8 aS8 aN8 aH8 aG8 rfl W9 0 rfl (Nat.le_of_ble_eq_true rfl)
    refine Goes.on (fun t k => st9 t k) ?_
    show Goes p e below QQ (T9.setTop (mkF m 85 #[iv p1, iv p2, iv p3, iv p4, iv p5, iv 0, iv vv, rv b1, .unset, .unset, .unset, .unset, .unset, .unset, .unset, .unset] [(.ref b4)]))
    refine Goes.on (fun t k => XS.dup X9.here hx rfl (hb hby at_85) rfl rfl k) ?_
    show Goes p e below QQ (T9.setTop (mkF m 86 #[iv p1, iv p2, iv p3, iv p4, iv p5, iv 0, iv vv, rv b1, .unset, .unset, .unset, .unset, .unset, .unset, .unset, .unset] [(.ref b4), (.ref b4)]))
    refine Goes.on (fun t k => XS.iconst X9.here hx rfl (hb hby at_86) k) ?_
    show Goes p e below QQ (T9.setTop (mkF m 87 #[iv p1, iv p2, iv p3, iv p4, iv p5, iv 0, iv vv, rv b1, .unset, .unset, .unset, .unset, .unset, .unset, .unset, .unset] [(.int 1), (.ref b4), (.ref b4)]))
    refine Goes.on (fun t k => XS.iloadN X9.here hx rfl (hb hby at_87) rfl k) ?_
    show Goes p e below QQ (T9.setTop (mkF m 88 #[iv p1, iv p2, iv p3, iv p4, iv p5, iv 0, iv vv, rv b1, .unset, .unset, .unset, .unset, .unset, .unset, .unset, .unset] [(.int p4), (.int 1), (.ref b4), (.ref b4)]))
    refine Goes.on (fun t k => XS.iconst X9.here hx rfl (hb hby at_88) k) ?_
    show Goes p e below QQ (T9.setTop (mkF m 89 #[iv p1, iv p2, iv p3, iv p4, iv p5, iv 0, iv vv, rv b1, .unset, .unset, .unset, .unset, .unset, .unset, .unset, .unset] [(.int 1), (.int p4), (.int 1), (.ref b4), (.ref b4)]))
    refine Goes.on (fun t k => XS.iadd X9.here hx rfl (hb hby at_89) rfl k) ?_
    show Goes p e below QQ (T9.setTop (mkF m 90 #[iv p1, iv p2, iv p3, iv p4, iv p5, iv 0, iv vv, rv b1, .unset, .unset, .unset, .unset, .unset, .unset, .unset, .unset] [(.int (p4 + (1 : Int32))), (.int 1), (.ref b4), (.ref b4)]))
    obtain ⟨cl13, Ar13, aq13, aS13, aN13, aH13, aG13⟩ := id V_12
    have hin13 := inb_of (j := (1 : Int32)) aS13 ⟨by decide, by decide⟩
    obtain ⟨T14, h14, X14, e14, W14, st14⟩ := stI X9 hx hZ e9 Ar13 (j := (1 : Int32)) hin13 (g := (mkF m 90 #[iv p1, iv p2, iv p3, iv p4, iv p5, iv 0, iv vv, rv b1, .unset, .unset, .unset, .unset, .unset, .unset, .unset, .unset] [(.int (p4 + (1 : Int32))), (.int 1), (.ref b4), (.ref b4)])) rfl rfl (hb hby at_90)
    have O_15 := O_10.wr W14 g_b4
    have V_16 := V_11.other W14 ne_b1_b4
    have K14 := K9.wr W14 (Or.inr sz_b4)
    have N14 := Fr.snoc X14 N9 g_b4
    have V_17 : Arv Z h14 b4 k4 .int (4 : Int32) [(.int p4), (.int (p4 + (1 : Int32))), (.int 0), (.int 0)] (.int 0) := Arv.set Ar13 aq13 aS13 aN13 aH13 aG13 rfl W14 1 rfl (Nat.le_of_ble_eq_true rfl)
    refine Goes.on (fun t k => st14 t k) ?_
    show Goes p e below QQ (T14.setTop (mkF m 91 #[iv p1, iv p2, iv p3, iv p4, iv p5, iv 0, iv vv, rv b1, .unset, .unset, .unset, .unset, .unset, .unset, .unset, .unset] [(.ref b4)]))
    refine Goes.on (fun t k => XS.dup X14.here hx rfl (hb hby at_91) rfl rfl k) ?_
    show Goes p e below QQ (T14.setTop (mkF m 92 #[iv p1, iv p2, iv p3, iv p4, iv p5, iv 0, iv vv, rv b1, .unset, .unset, .unset, .unset, .unset, .unset, .unset, .unset] [(.ref b4), (.ref b4)]))
    refine Goes.on (fun t k => XS.iconst X14.here hx rfl (hb hby at_92) k) ?_
    show Goes p e below QQ (T14.setTop (mkF m 93 #[iv p1, iv p2, iv p3, iv p4, iv p5, iv 0, iv vv, rv b1, .unset, .unset, .unset, .unset, .unset, .unset, .unset, .unset] [(.int 2), (.ref b4), (.ref b4)]))
    refine Goes.on (fun t k => XS.iloadN X14.here hx rfl (hb hby at_93) rfl k) ?_
    show Goes p e below QQ (T14.setTop (mkF m 94 #[iv p1, iv p2, iv p3, iv p4, iv p5, iv 0, iv vv, rv b1, .unset, .unset, .unset, .unset, .unset, .unset, .unset, .unset] [(.int p4), (.int 2), (.ref b4), (.ref b4)]))
    refine Goes.on (fun t k => XS.iconst X14.here hx rfl (hb hby at_94) k) ?_
    show Goes p e below QQ (T14.setTop (mkF m 95 #[iv p1, iv p2, iv p3, iv p4, iv p5, iv 0, iv vv, rv b1, .unset, .unset, .unset, .unset, .unset, .unset, .unset, .unset] [(.int 2), (.int p4), (.int 2), (.ref b4), (.ref b4)]))
    refine Goes.on (fun t k => XS.iadd X14.here hx rfl (hb hby at_95) rfl k) ?_
    show Goes p e below QQ (T14.setTop (mkF m 96 #[iv p1, iv p2, iv p3, iv p4, iv p5, iv 0, iv vv, rv b1, .unset, .unset, .unset, .unset, .unset, .unset, .unset, .unset] [(.int (p4 + (2 : Int32))), (.int 2), (.ref b4), (.ref b4)]))
    obtain ⟨cl18, Ar18, aq18, aS18, aN18, aH18, aG18⟩ := id V_17
    have hin18 := inb_of (j := (2 : Int32)) aS18 ⟨by decide, by decide⟩
    obtain ⟨T19, h19, X19, e19, W19, st19⟩ := stI X14 hx hZ e14 Ar18 (j := (2 : Int32)) hin18 (g := (mkF m 96 #[iv p1, iv p2, iv p3, iv p4, iv p5, iv 0, iv vv, rv b1, .unset, .unset, .unset, .unset, .unset, .unset, .unset, .unset] [(.int (p4 + (2 : Int32))), (.int 2), (.ref b4), (.ref b4)])) rfl rfl (hb hby at_96)
    have O_20 := O_15.wr W19 g_b4
    have V_21 := V_16.other W19 ne_b1_b4
    have K19 := K14.wr W19 (Or.inr sz_b4)
    have N19 := Fr.snoc X19 N14 g_b4
    have V_22 : Arv Z h19 b4 k4 .int (4 : Int32) [(.int p4), (.int (p4 + (1 : Int32))), (.int (p4 + (2 : Int32))), (.int 0)] (.int 0) := Arv.set Ar18 aq18 aS18 aN18 aH18 aG18 rfl W19 2 rfl (Nat.le_of_ble_eq_true rfl)
    refine Goes.on (fun t k => st19 t k) ?_
    show Goes p e below QQ (T19.setTop (mkF m 97 #[iv p1, iv p2, iv p3, iv p4, iv p5, iv 0, iv vv, rv b1, .unset, .unset, .unset, .unset, .unset, .unset, .unset, .unset] [(.ref b4)]))
    refine Goes.on (fun t k => XS.dup X19.here hx rfl (hb hby at_97) rfl rfl k) ?_
    show Goes p e below QQ (T19.setTop (mkF m 98 #[iv p1, iv p2, iv p3, iv p4, iv p5, iv 0, iv vv, rv b1, .unset, .unset, .unset, .unset, .unset, .unset, .unset, .unset] [(.ref b4), (.ref b4)]))
    refine Goes.on (fun t k => XS.iconst X19.here hx rfl (hb hby at_98) k) ?_
    show Goes p e below QQ (T19.setTop (mkF m 99 #[iv p1, iv p2, iv p3, iv p4, iv p5, iv 0, iv vv, rv b1, .unset, .unset, .unset, .unset, .unset, .unset, .unset, .unset] [(.int 3), (.ref b4), (.ref b4)]))
    refine Goes.on (fun t k => XS.iloadN X19.here hx rfl (hb hby at_99) rfl k) ?_
    show Goes p e below QQ (T19.setTop (mkF m 100 #[iv p1, iv p2, iv p3, iv p4, iv p5, iv 0, iv vv, rv b1, .unset, .unset, .unset, .unset, .unset, .unset, .unset, .unset] [(.int p4), (.int 3), (.ref b4), (.ref b4)]))
    refine Goes.on (fun t k => XS.iconst X19.here hx rfl (hb hby at_100) k) ?_
    show Goes p e below QQ (T19.setTop (mkF m 101 #[iv p1, iv p2, iv p3, iv p4, iv p5, iv 0, iv vv, rv b1, .unset, .unset, .unset, .unset, .unset, .unset, .unset, .unset] [(.int 3), (.int p4), (.int 3), (.ref b4), (.ref b4)]))
    refine Goes.on (fun t k => XS.iadd X19.here hx rfl (hb hby at_101) rfl k) ?_
    show Goes p e below QQ (T19.setTop (mkF m 102 #[iv p1, iv p2, iv p3, iv p4, iv p5, iv 0, iv vv, rv b1, .unset, .unset, .unset, .unset, .unset, .unset, .unset, .unset] [(.int (p4 + (3 : Int32))), (.int 3), (.ref b4), (.ref b4)]))
    obtain ⟨cl23, Ar23, aq23, aS23, aN23, aH23, aG23⟩ := id V_22
    have hin23 := inb_of (j := (3 : Int32)) aS23 ⟨by decide, by decide⟩
    obtain ⟨T24, h24, X24, e24, W24, st24⟩ := stI X19 hx hZ e19 Ar23 (j := (3 : Int32)) hin23 (g := (mkF m 102 #[iv p1, iv p2, iv p3, iv p4, iv p5, iv 0, iv vv, rv b1, .unset, .unset, .unset, .unset, .unset, .unset, .unset, .unset] [(.int (p4 + (3 : Int32))), (.int 3), (.ref b4), (.ref b4)])) rfl rfl (hb hby at_102)
    have O_25 := O_20.wr W24 g_b4
    have V_26 := V_21.other W24 ne_b1_b4
    have K24 := K19.wr W24 (Or.inr sz_b4)
    have N24 := Fr.snoc X24 N19 g_b4
    have V_27 : Arv Z h24 b4 k4 .int (4 : Int32) [(.int p4), (.int (p4 + (1 : Int32))), (.int (p4 + (2 : Int32))), (.int (p4 + (3 : Int32)))] (.int 0) := Arv.set Ar23 aq23 aS23 aN23 aH23 aG23 rfl W24 3 rfl (Nat.le_of_ble_eq_true rfl)
    refine Goes.on (fun t k => st24 t k) ?_
    show Goes p e below QQ (T24.setTop (mkF m 103 #[iv p1, iv p2, iv p3, iv p4, iv p5, iv 0, iv vv, rv b1, .unset, .unset, .unset, .unset, .unset, .unset, .unset, .unset] [(.ref b4)]))
    refine Goes.on (fun t k => XS.astore X24.here hx rfl (hb hby at_103) rfl rfl (l' := #[iv p1, iv p2, iv p3, iv p4, iv p5, iv 0, iv vv, rv b1, rv b4, .unset, .unset, .unset, .unset, .unset, .unset, .unset]) rfl k) ?_
    show Goes p e below QQ (T24.setTop (mkF m 105 #[iv p1, iv p2, iv p3, iv p4, iv p5, iv 0, iv vv, rv b1, rv b4, .unset, .unset, .unset, .unset, .unset, .unset, .unset] []))
    obtain ⟨rs0, hrs0⟩ : ∃ z : List Value, z = [(.int p4), (.int (p4 + (1 : Int32))), (.int (p4 + (2 : Int32))), (.int (p4 + (3 : Int32)))] := ⟨_, rfl⟩
    have V_28 := V_27
    rw [← hrs0] at V_28
    show Goes p e below QQ (T24.setTop (mkF m 105 #[iv p1, iv p2, iv p3, iv p4, iv p5, iv 0, iv vv, rv b1, rv b4, .unset, .unset, .unset, .unset, .unset, .unset, .unset] []))
    have Vb : Arv Z h24 b4 k4 .int (4 : Int32) ([(.int p4), (.int (p4 + (1 : Int32))), (.int (p4 + (2 : Int32))), (.int (p4 + (3 : Int32)))].set vv.toNatClampNeg (.int (p4 + vv))) (.int (0 : Int32)) := by rw [own_base p4 vv hv4, ← hrs0]; exact V_28
    obtain ⟨T29, h29, X29, e29, E29, A29, D29, -, st29⟩ := newO X24 hx hZ hown (hw _ (List.mem_of_getElem? (i := 1) rfl)) (hw _ (List.mem_of_getElem? (i := 2) rfl)) (hw _ (List.mem_of_getElem? (i := 3) rfl)) e24 (g := (mkF m 105 #[iv p1, iv p2, iv p3, iv p4, iv p5, iv 0, iv vv, rv b1, rv b4, .unset, .unset, .unset, .unset, .unset, .unset, .unset] [])) rfl (hb hby at_105) (by decide) (by decide)
    obtain ⟨b29, g29⟩ : ∃ z, z = h24.size := ⟨_, rfl⟩
    rw [← g29] at A29 D29 st29
    have sz_b29 : h0.size ≤ b29 := Nat.le_trans K24.1 (Nat.le_of_eq g29.symm)
    have g_b29 : n0 ≤ b29 := Nat.le_trans Z0 sz_b29
    have ne_b1_b29 : b1 ≠ b29 := Nat.ne_of_lt (Nat.lt_of_lt_of_le V_26.lt (Nat.le_of_eq g29.symm))
    have ne_b4_b29 : b4 ≠ b29 := Nat.ne_of_lt (Nat.lt_of_lt_of_le Vb.lt (Nat.le_of_eq g29.symm))
    have O_30 := O_25.ext E29
    have V_31 := V_26.ext E29
    have Vb_32 := Vb.ext E29
    have K29 := K24.ext E29
    have F_33 : Fld Z h29 b29 "com/example/clew/clew/algebra/Step" "tests" "Ljava/util/List;" .null := D29 (Or.inr (hw _ (List.mem_of_getElem? (i := 40) rfl))) (ty := (.object "java/util/List")) (by decide)
    have F_34 : Fld Z h29 b29 "com/example/clew/clew/algebra/Step" "variables" "[I" .null := D29 (Or.inr (hw _ (List.mem_of_getElem? (i := 42) rfl))) (ty := (.array .int)) (by decide)
    have F_35 : Fld Z h29 b29 "com/example/clew/clew/algebra/Step$Members" "members" "[I" .null := D29 (Or.inr (hw _ (List.mem_of_getElem? (i := 44) rfl))) (ty := (.array .int)) (by decide)
    have F_36 : Fld Z h29 b29 "com/example/clew/clew/algebra/Step$Members" "variable" "I" (.int 0) := D29 (Or.inr (hw _ (List.mem_of_getElem? (i := 46) rfl))) (ty := .int) (by decide)
    have F_37 : Fld Z h29 b29 "com/example/clew/clew/algebra/Step$Members" "next" "I" (.int 0) := D29 (Or.inl (hw _ (List.mem_of_getElem? (i := 53) rfl))) (ty := .int) (by decide)
    have F_38 : Fld Z h29 b29 "com/example/clew/clew/algebra/Step$Members" "end" "I" (.int 0) := D29 (Or.inl (hw _ (List.mem_of_getElem? (i := 55) rfl))) (ty := .int) (by decide)
    have F_39 : Fld Z h29 b29 "com/example/clew/clew/algebra/Step$Members" "bound" "Z" (.int 0) := D29 (Or.inl (hw _ (List.mem_of_getElem? (i := 57) rfl))) (ty := .boolean) (by decide)
    refine Goes.on (fun t k => st29 t k) ?_
    show Goes p e below QQ (T29.setTop (mkF m 108 #[iv p1, iv p2, iv p3, iv p4, iv p5, iv 0, iv vv, rv b1, rv b4, .unset, .unset, .unset, .unset, .unset, .unset, .unset] [(.ref b29)]))
    refine Goes.on (fun t k => XS.dup X29.here hx rfl (hb hby at_108) rfl rfl k) ?_
    show Goes p e below QQ (T29.setTop (mkF m 109 #[iv p1, iv p2, iv p3, iv p4, iv p5, iv 0, iv vv, rv b1, rv b4, .unset, .unset, .unset, .unset, .unset, .unset, .unset] [(.ref b29), (.ref b29)]))
    refine Goes.on (fun t k => XS.aload X29.here hx rfl (hb hby at_109) rfl rfl k) ?_
    show Goes p e below QQ (T29.setTop (mkF m 111 #[iv p1, iv p2, iv p3, iv p4, iv p5, iv 0, iv vv, rv b1, rv b4, .unset, .unset, .unset, .unset, .unset, .unset, .unset] [(.ref b1), (.ref b29), (.ref b29)]))
    refine Goes.on (fun t k => XS.iload X29.here hx rfl (hb hby at_111) rfl k) ?_
    show Goes p e below QQ (T29.setTop (mkF m 113 #[iv p1, iv p2, iv p3, iv p4, iv p5, iv 0, iv vv, rv b1, rv b4, .unset, .unset, .unset, .unset, .unset, .unset, .unset] [(.int vv), (.ref b1), (.ref b29), (.ref b29)]))
    obtain ⟨_, _, ⟨T40, L40, k40, n40⟩, -, X40, ⟨Lc40, hQ40, l40, y40, z40⟩, st40⟩ := X29.specialBack hx (y := (⟨"com/example/clew/clew/algebra/Step$Members", "<init>", "([II)V"⟩ : MethodName)) rfl hown (mvT hZ (hw _ (List.mem_of_getElem? (i := 4) rfl))) (mvT hZ (hw _ (List.mem_of_getElem? (i := 5) rfl))) (mvT hZ (hw _ (List.mem_of_getElem? (i := 6) rfl))) (by decide) (backOf (W := 1) (rmMe l Z a0 hw [] b29 b1 vv xD h29 n0 (Nat.le_trans Z0 K29.1) A29 F_33 F_34 F_35 F_36 F_37 F_38 F_39 g_b29 S_DEFAULTCAPACITY_EMPTY_ELEMENTDATA O_30) hZ (hw _ (List.mem_of_getElem? (i := 6) rfl)) (hw _ (List.mem_of_getElem? (i := 3) rfl)) (by decide) (by decide)) (g := (mkF m 113 #[iv p1, iv p2, iv p3, iv p4, iv p5, iv 0, iv vv, rv b1, rv b4, .unset, .unset, .unset, .unset, .unset, .unset, .unset] [(.int vv), (.ref b1), (.ref b29), (.ref b29)])) rfl (by rw [hml]; rfl) (Steps.refl _) (a := b29) (argsL := [(.ref b1), (.int vv)]) (rest := [(.ref b29)]) (lenOf pd_4 rfl) rfl (by show 2 * 0 + _ ≤ _; exact Nat.le_of_eq rfl) (hb hby at_113) (fun _ _ => ⟨rfl, e29, (by decide : 3 + 2 ≤ _), (by decide : 11 + 4 ≤ _)⟩)
    dsimp only [Pt.U, Pt.locs, Pt.cells, Pt.slots] at X40 l40 y40 z40 st40 hQ40
    subst l40 y40 z40
    obtain ⟨rfl, M40, Kb1, ⟨members_m, variable_m, next_m, end_m, bound_m⟩⟩ := hQ40
    have N40 := Fr.app N24 M40
    refine Goes.on (fun t k => st40.trans k) ?_
    have O_41 := O_30.keep Kb1 (allS g_b29 all0)
    have V_42 := V_31.keep Kb1 (ninS ne_b1_b29 nin0)
    have Vb_43 := Vb_32.keep Kb1 (ninS ne_b4_b29 nin0)
    have A29_44 := A29.keep Kb1
    have K52 := K29.trans Kb1 (allS (Or.inr sz_b29) all0)
    show Goes p e below QQ (T40.setTop (mkF m 116 #[iv p1, iv p2, iv p3, iv p4, iv p5, iv 0, iv vv, rv b1, rv b4, .unset, .unset, .unset, .unset, .unset, .unset, .unset] [(.ref b29)]))
    refine Goes.on (fun t k => XS.astore X40.here hx rfl (hb hby at_116) rfl rfl (l' := #[iv p1, iv p2, iv p3, iv p4, iv p5, iv 0, iv vv, rv b1, rv b4, rv b29, .unset, .unset, .unset, .unset, .unset, .unset]) rfl k) ?_
    show Goes p e below QQ (T40.setTop (mkF m 118 #[iv p1, iv p2, iv p3, iv p4, iv p5, iv 0, iv vv, rv b1, rv b4, rv b29, .unset, .unset, .unset, .unset, .unset, .unset] []))
    refine Goes.on (fun t k => XS.aload X40.here hx rfl (hb hby at_118) rfl rfl k) ?_
    show Goes p e below QQ (T40.setTop (mkF m 120 #[iv p1, iv p2, iv p3, iv p4, iv p5, iv 0, iv vv, rv b1, rv b4, rv b29, .unset, .unset, .unset, .unset, .unset, .unset] [(.ref b29)]))
    refine Goes.on (fun t k => XS.aload X40.here hx rfl (hb hby at_120) rfl rfl k) ?_
    show Goes p e below QQ (T40.setTop (mkF m 122 #[iv p1, iv p2, iv p3, iv p4, iv p5, iv 0, iv vv, rv b1, rv b4, rv b29, .unset, .unset, .unset, .unset, .unset, .unset] [(.ref b4), (.ref b29)]))
    obtain ⟨cq53, kq53, q53a, q53b, q53c⟩ := isOf hZ rfl A29_44
    obtain ⟨_, _, ⟨T53, L53, k53, n53⟩, -, X53, ⟨Lc53, hQ53, l53, y53, z53⟩, st53⟩ := X40.virtualBack hx (y := (⟨"com/example/clew/clew/algebra/Step$Members", "start", "([I)V"⟩ : MethodName)) (z := (⟨"com/example/clew/clew/algebra/Step$Members", "start", "([I)V"⟩ : MethodName)) hown (mvT hZ (hw _ (List.mem_of_getElem? (i := 47) rfl))) (mvT hZ (hw _ (List.mem_of_getElem? (i := 48) rfl))) (notFace_of_selects (args := #[]) (mvT hZ (hw _ (List.mem_of_getElem? (i := 50) rfl)))) (mvT hZ (hw _ (List.mem_of_getElem? (i := 50) rfl))) (mvT hZ (hw _ (List.mem_of_getElem? (i := 49) rfl))) (by decide) (backOf (W := 0) (rmSa l Z a0 hw [] b29 b4 b1 vv k1 (0 : Int32) [] T40.heap n0 (Nat.le_trans Z0 K52.1) A29_44 members_m variable_m next_m end_m bound_m V_42 g_b29 ne_b1_b29) hZ (hw _ (List.mem_of_getElem? (i := 51) rfl)) (hw _ (List.mem_of_getElem? (i := 3) rfl)) (by decide) (by decide)) q53a q53c (g := (mkF m 122 #[iv p1, iv p2, iv p3, iv p4, iv p5, iv 0, iv vv, rv b1, rv b4, rv b29, .unset, .unset, .unset, .unset, .unset, .unset] [(.ref b4), (.ref b29)])) rfl (by rw [hml]; rfl) (Steps.refl _) (argsL := [(.ref b4)]) (rest := []) (lenOf pd_1 rfl) rfl (by show 2 * 0 + _ ≤ _; exact Nat.le_of_eq rfl) (hb hby at_122) (fun _ _ => ⟨rfl, rfl, (by decide : 5 + 0 ≤ _), (by decide : 15 + 0 ≤ _)⟩)
    dsimp only [Pt.U, Pt.locs, Pt.cells, Pt.slots] at X53 l53 y53 z53 st53 hQ53
    subst l53 y53 z53
    obtain ⟨rfl, M53, Kb2, ⟨members_t, variable_t, next_t, end_t, bound_t⟩⟩ := hQ53
    have N53 := Fr.app N40 M53
    refine Goes.on (fun t k => st53.trans k) ?_
    have O_54 := O_41.keep Kb2 (allS g_b29 all0)
    have V_55 := V_42.keep Kb2 (ninS ne_b1_b29 nin0)
    have Vb_56 := Vb_43.keep Kb2 (ninS ne_b4_b29 nin0)
    have A29_57 := A29_44.keep Kb2
    have K63 := K52.trans Kb2 (allS (Or.inr sz_b29) all0)
    show Goes p e below QQ (T53.setTop (mkF m 125 #[iv p1, iv p2, iv p3, iv p4, iv p5, iv 0, iv vv, rv b1, rv b4, rv b29, .unset, .unset, .unset, .unset, .unset, .unset] []))
    refine Goes.on (fun t k => XS.iconst X53.here hx rfl (hb hby at_125) k) ?_
    show Goes p e below QQ (T53.setTop (mkF m 126 #[iv p1, iv p2, iv p3, iv p4, iv p5, iv 0, iv vv, rv b1, rv b4, rv b29, .unset, .unset, .unset, .unset, .unset, .unset] [(.int 1)]))
    refine Goes.on (fun t k => XS.istore X53.here hx rfl (hb hby at_126) rfl (l' := #[iv p1, iv p2, iv p3, iv p4, iv p5, iv 0, iv vv, rv b1, rv b4, rv b29, iv 1, .unset, .unset, .unset, .unset, .unset]) rfl k) ?_
    show Goes p e below QQ (T53.setTop (mkF m 128 #[iv p1, iv p2, iv p3, iv p4, iv p5, iv 0, iv vv, rv b1, rv b4, rv b29, iv 1, .unset, .unset, .unset, .unset, .unset] []))
    refine Goes.on (fun t k => XS.aload X53.here hx rfl (hb hby at_128) rfl rfl k) ?_
    show Goes p e below QQ (T53.setTop (mkF m 130 #[iv p1, iv p2, iv p3, iv p4, iv p5, iv 0, iv vv, rv b1, rv b4, rv b29, iv 1, .unset, .unset, .unset, .unset, .unset] [(.ref b29)]))
    refine Goes.on (fun t k => XS.aload X53.here hx rfl (hb hby at_130) rfl rfl k) ?_
    show Goes p e below QQ (T53.setTop (mkF m 132 #[iv p1, iv p2, iv p3, iv p4, iv p5, iv 0, iv vv, rv b1, rv b4, rv b29, iv 1, .unset, .unset, .unset, .unset, .unset] [(.ref b4), (.ref b29)]))
    obtain ⟨cq64, kq64, q64a, q64b, q64c⟩ := isOf hZ rfl A29_57
    obtain ⟨_, _, ⟨T64, L64, k64, n64⟩, -, X64, ⟨Lc64, hQ64, l64, y64, z64⟩, st64⟩ := X53.virtualBack hx (y := (⟨"com/example/clew/clew/algebra/Step$Members", "advance", "([I)Z"⟩ : MethodName)) (z := (⟨"com/example/clew/clew/algebra/Step$Members", "advance", "([I)Z"⟩ : MethodName)) hown (mvT hZ (hw _ (List.mem_of_getElem? (i := 58) rfl))) (mvT hZ (hw _ (List.mem_of_getElem? (i := 59) rfl))) (notFace_of_selects (args := #[]) (mvT hZ (hw _ (List.mem_of_getElem? (i := 61) rfl)))) (mvT hZ (hw _ (List.mem_of_getElem? (i := 61) rfl))) (mvT hZ (hw _ (List.mem_of_getElem? (i := 60) rfl))) (by decide) (backOf (W := 0) (rmNo l Z a0 hw [] b29 b4 (0 : Int32) T53.heap n0 (Nat.le_trans Z0 K63.1) next_t end_t) hZ (hw _ (List.mem_of_getElem? (i := 62) rfl)) (hw _ (List.mem_of_getElem? (i := 3) rfl)) (by decide) (by decide)) q64a q64c (g := (mkF m 132 #[iv p1, iv p2, iv p3, iv p4, iv p5, iv 0, iv vv, rv b1, rv b4, rv b29, iv 1, .unset, .unset, .unset, .unset, .unset] [(.ref b4), (.ref b29)])) rfl (by rw [hml]; rfl) (Steps.refl _) (argsL := [(.ref b4)]) (rest := []) (lenOf pd_5 rfl) rfl (by show 2 * 0 + _ ≤ _; exact Nat.le_of_eq rfl) (hb hby at_132) (fun _ _ => ⟨rfl, rfl, (by decide : 5 + 0 ≤ _), (by decide : 15 + 0 ≤ _)⟩)
    dsimp only [Pt.U, Pt.locs, Pt.cells, Pt.slots] at X64 l64 y64 z64 st64 hQ64
    subst l64 y64 z64
    obtain ⟨rfl, M64, e64⟩ := hQ64
    have N64 := Fr.app N53 M64
    refine Goes.on (fun t k => st64.trans k) ?_
    show Goes p e below QQ (T64.setTop (mkF m 135 #[iv p1, iv p2, iv p3, iv p4, iv p5, iv 0, iv vv, rv b1, rv b4, rv b29, iv 1, .unset, .unset, .unset, .unset, .unset] [(.int 0)]))
    refine Goes.on (fun t k => XS.istore X64.here hx rfl (hb hby at_135) rfl (l' := #[iv p1, iv p2, iv p3, iv p4, iv p5, iv 0, iv vv, rv b1, rv b4, rv b29, iv 1, iv 0, .unset, .unset, .unset, .unset]) rfl k) ?_
    show Goes p e below QQ (T64.setTop (mkF m 137 #[iv p1, iv p2, iv p3, iv p4, iv p5, iv 0, iv vv, rv b1, rv b4, rv b29, iv 1, iv 0, .unset, .unset, .unset, .unset] []))
    refine Goes.on (fun t k => XS.iload X64.here hx rfl (hb hby at_137) rfl k) ?_
    show Goes p e below QQ (T64.setTop (mkF m 139 #[iv p1, iv p2, iv p3, iv p4, iv p5, iv 0, iv vv, rv b1, rv b4, rv b29, iv 1, iv 0, .unset, .unset, .unset, .unset] [(.int 1)]))
    refine Goes.on (fun t k => XS.ifNo X64.here hx rfl (hb hby at_139) rfl ((if0 _ _).trans (feq (by decide)).1) k) ?_
    show Goes p e below QQ (T64.setTop (mkF m 142 #[iv p1, iv p2, iv p3, iv p4, iv p5, iv 0, iv vv, rv b1, rv b4, rv b29, iv 1, iv 0, .unset, .unset, .unset, .unset] []))
    refine Goes.on (fun t k => XS.iload X64.here hx rfl (hb hby at_142) rfl k) ?_
    show Goes p e below QQ (T64.setTop (mkF m 144 #[iv p1, iv p2, iv p3, iv p4, iv p5, iv 0, iv vv, rv b1, rv b4, rv b29, iv 1, iv 0, .unset, .unset, .unset, .unset] [(.int 0)]))
    refine Goes.on (fun t k => XS.aload X64.here hx rfl (hb hby at_144) rfl rfl k) ?_
    show Goes p e below QQ (T64.setTop (mkF m 146 #[iv p1, iv p2, iv p3, iv p4, iv p5, iv 0, iv vv, rv b1, rv b4, rv b29, iv 1, iv 0, .unset, .unset, .unset, .unset] [(.ref b4), (.int 0)]))
    refine Goes.on (fun t k => XS.iconst X64.here hx rfl (hb hby at_146) k) ?_
    show Goes p e below QQ (T64.setTop (mkF m 147 #[iv p1, iv p2, iv p3, iv p4, iv p5, iv 0, iv vv, rv b1, rv b4, rv b29, iv 1, iv 0, .unset, .unset, .unset, .unset] [(.int 0), (.ref b4), (.int 0)]))
    refine Goes.on (fun t k => XS.iload X64.here hx rfl (hb hby at_147) rfl k) ?_
    show Goes p e below QQ (T64.setTop (mkF m 149 #[iv p1, iv p2, iv p3, iv p4, iv p5, iv 0, iv vv, rv b1, rv b4, rv b29, iv 1, iv 0, .unset, .unset, .unset, .unset] [(.int 0), (.int 0), (.ref b4), (.int 0)]))
    refine Goes.on (fun t k => XS.iload X64.here hx rfl (hb hby at_149) rfl k) ?_
    show Goes p e below QQ (T64.setTop (mkF m 151 #[iv p1, iv p2, iv p3, iv p4, iv p5, iv 0, iv vv, rv b1, rv b4, rv b29, iv 1, iv 0, .unset, .unset, .unset, .unset] [(.int vv), (.int 0), (.int 0), (.ref b4), (.int 0)]))
    refine Goes.on (fun t k => XS.iloadN X64.here hx rfl (hb hby at_151) rfl k) ?_
    show Goes p e below QQ (T64.setTop (mkF m 152 #[iv p1, iv p2, iv p3, iv p4, iv p5, iv 0, iv vv, rv b1, rv b4, rv b29, iv 1, iv 0, .unset, .unset, .unset, .unset] [(.int p1), (.int vv), (.int 0), (.int 0), (.ref b4), (.int 0)]))
    refine Goes.on (fun t k => XS.iloadN X64.here hx rfl (hb hby at_152) rfl k) ?_
    show Goes p e below QQ (T64.setTop (mkF m 153 #[iv p1, iv p2, iv p3, iv p4, iv p5, iv 0, iv vv, rv b1, rv b4, rv b29, iv 1, iv 0, .unset, .unset, .unset, .unset] [(.int p2), (.int p1), (.int vv), (.int 0), (.int 0), (.ref b4), (.int 0)]))
    refine Goes.on (fun t k => XS.iloadN X64.here hx rfl (hb hby at_153) rfl k) ?_
    show Goes p e below QQ (T64.setTop (mkF m 154 #[iv p1, iv p2, iv p3, iv p4, iv p5, iv 0, iv vv, rv b1, rv b4, rv b29, iv 1, iv 0, .unset, .unset, .unset, .unset] [(.int p3), (.int p2), (.int p1), (.int vv), (.int 0), (.int 0), (.ref b4), (.int 0)]))
    refine Goes.on (fun t k => XS.iloadN X64.here hx rfl (hb hby at_154) rfl k) ?_
    show Goes p e below QQ (T64.setTop (mkF m 155 #[iv p1, iv p2, iv p3, iv p4, iv p5, iv 0, iv vv, rv b1, rv b4, rv b29, iv 1, iv 0, .unset, .unset, .unset, .unset] [(.int p4), (.int p3), (.int p2), (.int p1), (.int vv), (.int 0), (.int 0), (.ref b4), (.int 0)]))
    have Vq155 : Arv Z T53.heap b4 k4 .int (4 : Int32) ([(.int p4), (.int (p4 + (1 : Int32))), (.int (p4 + (2 : Int32))), (.int (p4 + (3 : Int32)))].set vv.toNatClampNeg (.int (p4 + vv))) (.int (0 : Int32)) := Vb_56
    obtain ⟨_, _, ⟨T65, L65, k65, n65⟩, -, X65, ⟨Lc65, hQ65, l65, y65, z65⟩, st65⟩ := Jvm.LawKit.callS X64 hx (y := (⟨"com/example/clew/clew/algebra/MembersAdvancePinLaw", "stepOk", "(Z[IIIIIIII)Z"⟩ : MethodName)) hown (mvT hZ (hw _ (List.mem_of_getElem? (i := 63) rfl))) (mvT hZ (hw _ (List.mem_of_getElem? (i := 64) rfl))) (mvT hZ (hw _ (List.mem_of_getElem? (i := 65) rfl))) (mvT hZ (hw _ (List.mem_of_getElem? (i := 66) rfl))) (by decide) (backOf (W := 0) (rmSO l Z a0 hw [] (0 : Int32) b4 (0 : Int32) (0 : Int32) vv p1 p2 p3 p4 k4 (p4 + vv) T53.heap n0 (Nat.le_trans Z0 K63.1) Vq155 hv4 (by decide) (by first | rfl | simp [expF])) hZ (hw _ (List.mem_of_getElem? (i := 66) rfl)) (hw _ (List.mem_of_getElem? (i := 65) rfl)) (by decide) (by decide)) (g := (mkF m 155 #[iv p1, iv p2, iv p3, iv p4, iv p5, iv 0, iv vv, rv b1, rv b4, rv b29, iv 1, iv 0, .unset, .unset, .unset, .unset] [(.int p4), (.int p3), (.int p2), (.int p1), (.int vv), (.int 0), (.int 0), (.ref b4), (.int 0)])) rfl (by rw [hml]; rfl) (argsL := [(.int 0), (.ref b4), (.int 0), (.int 0), (.int vv), (.int p1), (.int p2), (.int p3), (.int p4)]) (rest := []) (lenOf pd_6 rfl) rfl (by show 2 * 0 + _ ≤ _; exact Nat.le_of_eq rfl) (hb hby at_155) (fun _ _ => ⟨rfl, e64, (by decide : 5 + 0 ≤ _), (by decide : 15 + 0 ≤ _)⟩)
    dsimp only [Pt.U, Pt.locs, Pt.cells, Pt.slots] at X65 l65 y65 z65 st65 hQ65
    subst l65 y65 z65
    obtain ⟨rfl, M65, e65⟩ := hQ65
    have N65 := Fr.app N64 M65
    refine Goes.on (fun t k => st65 _ k) ?_
    show Goes p e below QQ (T65.setTop (mkF m 158 #[iv p1, iv p2, iv p3, iv p4, iv p5, iv 0, iv vv, rv b1, rv b4, rv b29, iv 1, iv 0, .unset, .unset, .unset, .unset] [(.int 1)]))
    refine Goes.on (fun t k => XS.ifNo X65.here hx rfl (hb hby at_158) rfl ((if0 _ _).trans (feq (by decide)).1) k) ?_
    show Goes p e below QQ (T65.setTop (mkF m 161 #[iv p1, iv p2, iv p3, iv p4, iv p5, iv 0, iv vv, rv b1, rv b4, rv b29, iv 1, iv 0, .unset, .unset, .unset, .unset] []))
    refine Goes.on (fun t k => XS.iconst X65.here hx rfl (hb hby at_161) k) ?_
    show Goes p e below QQ (T65.setTop (mkF m 162 #[iv p1, iv p2, iv p3, iv p4, iv p5, iv 0, iv vv, rv b1, rv b4, rv b29, iv 1, iv 0, .unset, .unset, .unset, .unset] [(.int 1)]))
    refine Goes.on (fun t k => XS.goto X65.here hx rfl (pc0 := 162) (pc' := 166) rfl (hb hby at_162) (by decide) (by decide) k) ?_
    show Goes p e below QQ (T65.setTop (mkF m 166 #[iv p1, iv p2, iv p3, iv p4, iv p5, iv 0, iv vv, rv b1, rv b4, rv b29, iv 1, iv 0, .unset, .unset, .unset, .unset] [(.int 1)]))
    refine Goes.on (fun t k => XS.istore X65.here hx rfl (hb hby at_166) rfl (l' := #[iv p1, iv p2, iv p3, iv p4, iv p5, iv 0, iv vv, rv b1, rv b4, rv b29, iv 1, iv 0, .unset, .unset, .unset, .unset]) rfl k) ?_
    show Goes p e below QQ (T65.setTop (mkF m 168 #[iv p1, iv p2, iv p3, iv p4, iv p5, iv 0, iv vv, rv b1, rv b4, rv b29, iv 1, iv 0, .unset, .unset, .unset, .unset] []))
    refine Goes.on (fun t k => XS.aload X65.here hx rfl (hb hby at_168) rfl rfl k) ?_
    show Goes p e below QQ (T65.setTop (mkF m 170 #[iv p1, iv p2, iv p3, iv p4, iv p5, iv 0, iv vv, rv b1, rv b4, rv b29, iv 1, iv 0, .unset, .unset, .unset, .unset] [(.ref b29)]))
    refine Goes.on (fun t k => XS.aload X65.here hx rfl (hb hby at_170) rfl rfl k) ?_
    show Goes p e below QQ (T65.setTop (mkF m 172 #[iv p1, iv p2, iv p3, iv p4, iv p5, iv 0, iv vv, rv b1, rv b4, rv b29, iv 1, iv 0, .unset, .unset, .unset, .unset] [(.ref b4), (.ref b29)]))
    obtain ⟨cq66, kq66, q66a, q66b, q66c⟩ := isOf hZ e65 A29_57
    obtain ⟨_, _, ⟨T66, L66, k66, n66⟩, -, X66, ⟨Lc66, hQ66, l66, y66, z66⟩, st66⟩ := X65.virtualBack hx (y := (⟨"com/example/clew/clew/algebra/Step$Members", "advance", "([I)Z"⟩ : MethodName)) (z := (⟨"com/example/clew/clew/algebra/Step$Members", "advance", "([I)Z"⟩ : MethodName)) hown (mvT hZ (hw _ (List.mem_of_getElem? (i := 58) rfl))) (mvT hZ (hw _ (List.mem_of_getElem? (i := 59) rfl))) (notFace_of_selects (args := #[]) (mvT hZ (hw _ (List.mem_of_getElem? (i := 61) rfl)))) (mvT hZ (hw _ (List.mem_of_getElem? (i := 61) rfl))) (mvT hZ (hw _ (List.mem_of_getElem? (i := 60) rfl))) (by decide) (backOf (W := 0) (rmNo l Z a0 hw [] b29 b4 (0 : Int32) T53.heap n0 (Nat.le_trans Z0 K63.1) next_t end_t) hZ (hw _ (List.mem_of_getElem? (i := 62) rfl)) (hw _ (List.mem_of_getElem? (i := 3) rfl)) (by decide) (by decide)) q66a q66c (g := (mkF m 172 #[iv p1, iv p2, iv p3, iv p4, iv p5, iv 0, iv vv, rv b1, rv b4, rv b29, iv 1, iv 0, .unset, .unset, .unset, .unset] [(.ref b4), (.ref b29)])) rfl (by rw [hml]; rfl) (Steps.refl _) (argsL := [(.ref b4)]) (rest := []) (lenOf pd_5 rfl) rfl (by show 2 * 0 + _ ≤ _; exact Nat.le_of_eq rfl) (hb hby at_172) (fun _ _ => ⟨rfl, e65, (by decide : 5 + 0 ≤ _), (by decide : 15 + 0 ≤ _)⟩)
    dsimp only [Pt.U, Pt.locs, Pt.cells, Pt.slots] at X66 l66 y66 z66 st66 hQ66
    subst l66 y66 z66
    obtain ⟨rfl, M66, e66⟩ := hQ66
    have N66 := Fr.app N65 M66
    refine Goes.on (fun t k => st66.trans k) ?_
    show Goes p e below QQ (T66.setTop (mkF m 175 #[iv p1, iv p2, iv p3, iv p4, iv p5, iv 0, iv vv, rv b1, rv b4, rv b29, iv 1, iv 0, .unset, .unset, .unset, .unset] [(.int 0)]))
    refine Goes.on (fun t k => XS.istore X66.here hx rfl (hb hby at_175) rfl (l' := #[iv p1, iv p2, iv p3, iv p4, iv p5, iv 0, iv vv, rv b1, rv b4, rv b29, iv 1, iv 0, iv 0, .unset, .unset, .unset]) rfl k) ?_
    show Goes p e below QQ (T66.setTop (mkF m 177 #[iv p1, iv p2, iv p3, iv p4, iv p5, iv 0, iv vv, rv b1, rv b4, rv b29, iv 1, iv 0, iv 0, .unset, .unset, .unset] []))
    refine Goes.on (fun t k => XS.iload X66.here hx rfl (hb hby at_177) rfl k) ?_
    show Goes p e below QQ (T66.setTop (mkF m 179 #[iv p1, iv p2, iv p3, iv p4, iv p5, iv 0, iv vv, rv b1, rv b4, rv b29, iv 1, iv 0, iv 0, .unset, .unset, .unset] [(.int 1)]))
    refine Goes.on (fun t k => XS.ifNo X66.here hx rfl (hb hby at_179) rfl ((if0 _ _).trans (feq (by decide)).1) k) ?_
    show Goes p e below QQ (T66.setTop (mkF m 182 #[iv p1, iv p2, iv p3, iv p4, iv p5, iv 0, iv vv, rv b1, rv b4, rv b29, iv 1, iv 0, iv 0, .unset, .unset, .unset] []))
    refine Goes.on (fun t k => XS.iload X66.here hx rfl (hb hby at_182) rfl k) ?_
    show Goes p e below QQ (T66.setTop (mkF m 184 #[iv p1, iv p2, iv p3, iv p4, iv p5, iv 0, iv vv, rv b1, rv b4, rv b29, iv 1, iv 0, iv 0, .unset, .unset, .unset] [(.int 0)]))
    refine Goes.on (fun t k => XS.aload X66.here hx rfl (hb hby at_184) rfl rfl k) ?_
    show Goes p e below QQ (T66.setTop (mkF m 186 #[iv p1, iv p2, iv p3, iv p4, iv p5, iv 0, iv vv, rv b1, rv b4, rv b29, iv 1, iv 0, iv 0, .unset, .unset, .unset] [(.ref b4), (.int 0)]))
    refine Goes.on (fun t k => XS.iconst X66.here hx rfl (hb hby at_186) k) ?_
    show Goes p e below QQ (T66.setTop (mkF m 187 #[iv p1, iv p2, iv p3, iv p4, iv p5, iv 0, iv vv, rv b1, rv b4, rv b29, iv 1, iv 0, iv 0, .unset, .unset, .unset] [(.int 1), (.ref b4), (.int 0)]))
    refine Goes.on (fun t k => XS.iload X66.here hx rfl (hb hby at_187) rfl k) ?_
    show Goes p e below QQ (T66.setTop (mkF m 189 #[iv p1, iv p2, iv p3, iv p4, iv p5, iv 0, iv vv, rv b1, rv b4, rv b29, iv 1, iv 0, iv 0, .unset, .unset, .unset] [(.int 0), (.int 1), (.ref b4), (.int 0)]))
    refine Goes.on (fun t k => XS.iload X66.here hx rfl (hb hby at_189) rfl k) ?_
    show Goes p e below QQ (T66.setTop (mkF m 191 #[iv p1, iv p2, iv p3, iv p4, iv p5, iv 0, iv vv, rv b1, rv b4, rv b29, iv 1, iv 0, iv 0, .unset, .unset, .unset] [(.int vv), (.int 0), (.int 1), (.ref b4), (.int 0)]))
    refine Goes.on (fun t k => XS.iloadN X66.here hx rfl (hb hby at_191) rfl k) ?_
    show Goes p e below QQ (T66.setTop (mkF m 192 #[iv p1, iv p2, iv p3, iv p4, iv p5, iv 0, iv vv, rv b1, rv b4, rv b29, iv 1, iv 0, iv 0, .unset, .unset, .unset] [(.int p1), (.int vv), (.int 0), (.int 1), (.ref b4), (.int 0)]))
    refine Goes.on (fun t k => XS.iloadN X66.here hx rfl (hb hby at_192) rfl k) ?_
    show Goes p e below QQ (T66.setTop (mkF m 193 #[iv p1, iv p2, iv p3, iv p4, iv p5, iv 0, iv vv, rv b1, rv b4, rv b29, iv 1, iv 0, iv 0, .unset, .unset, .unset] [(.int p2), (.int p1), (.int vv), (.int 0), (.int 1), (.ref b4), (.int 0)]))
    refine Goes.on (fun t k => XS.iloadN X66.here hx rfl (hb hby at_193) rfl k) ?_
    show Goes p e below QQ (T66.setTop (mkF m 194 #[iv p1, iv p2, iv p3, iv p4, iv p5, iv 0, iv vv, rv b1, rv b4, rv b29, iv 1, iv 0, iv 0, .unset, .unset, .unset] [(.int p3), (.int p2), (.int p1), (.int vv), (.int 0), (.int 1), (.ref b4), (.int 0)]))
    refine Goes.on (fun t k => XS.iloadN X66.here hx rfl (hb hby at_194) rfl k) ?_
    show Goes p e below QQ (T66.setTop (mkF m 195 #[iv p1, iv p2, iv p3, iv p4, iv p5, iv 0, iv vv, rv b1, rv b4, rv b29, iv 1, iv 0, iv 0, .unset, .unset, .unset] [(.int p4), (.int p3), (.int p2), (.int p1), (.int vv), (.int 0), (.int 1), (.ref b4), (.int 0)]))
    have Vq195 : Arv Z T53.heap b4 k4 .int (4 : Int32) ([(.int p4), (.int (p4 + (1 : Int32))), (.int (p4 + (2 : Int32))), (.int (p4 + (3 : Int32)))].set vv.toNatClampNeg (.int (p4 + vv))) (.int (0 : Int32)) := Vb_56
    obtain ⟨_, _, ⟨T67, L67, k67, n67⟩, -, X67, ⟨Lc67, hQ67, l67, y67, z67⟩, st67⟩ := Jvm.LawKit.callS X66 hx (y := (⟨"com/example/clew/clew/algebra/MembersAdvancePinLaw", "stepOk", "(Z[IIIIIIII)Z"⟩ : MethodName)) hown (mvT hZ (hw _ (List.mem_of_getElem? (i := 63) rfl))) (mvT hZ (hw _ (List.mem_of_getElem? (i := 64) rfl))) (mvT hZ (hw _ (List.mem_of_getElem? (i := 65) rfl))) (mvT hZ (hw _ (List.mem_of_getElem? (i := 66) rfl))) (by decide) (backOf (W := 0) (rmSO l Z a0 hw [] (0 : Int32) b4 (1 : Int32) (0 : Int32) vv p1 p2 p3 p4 k4 (p4 + vv) T53.heap n0 (Nat.le_trans Z0 K63.1) Vq195 hv4 (by decide) (by first | rfl | simp [expF])) hZ (hw _ (List.mem_of_getElem? (i := 66) rfl)) (hw _ (List.mem_of_getElem? (i := 65) rfl)) (by decide) (by decide)) (g := (mkF m 195 #[iv p1, iv p2, iv p3, iv p4, iv p5, iv 0, iv vv, rv b1, rv b4, rv b29, iv 1, iv 0, iv 0, .unset, .unset, .unset] [(.int p4), (.int p3), (.int p2), (.int p1), (.int vv), (.int 0), (.int 1), (.ref b4), (.int 0)])) rfl (by rw [hml]; rfl) (argsL := [(.int 0), (.ref b4), (.int 1), (.int 0), (.int vv), (.int p1), (.int p2), (.int p3), (.int p4)]) (rest := []) (lenOf pd_6 rfl) rfl (by show 2 * 0 + _ ≤ _; exact Nat.le_of_eq rfl) (hb hby at_195) (fun _ _ => ⟨rfl, e66, (by decide : 5 + 0 ≤ _), (by decide : 15 + 0 ≤ _)⟩)
    dsimp only [Pt.U, Pt.locs, Pt.cells, Pt.slots] at X67 l67 y67 z67 st67 hQ67
    subst l67 y67 z67
    obtain ⟨rfl, M67, e67⟩ := hQ67
    have N67 := Fr.app N66 M67
    refine Goes.on (fun t k => st67 _ k) ?_
    show Goes p e below QQ (T67.setTop (mkF m 198 #[iv p1, iv p2, iv p3, iv p4, iv p5, iv 0, iv vv, rv b1, rv b4, rv b29, iv 1, iv 0, iv 0, .unset, .unset, .unset] [(.int 1)]))
    refine Goes.on (fun t k => XS.ifNo X67.here hx rfl (hb hby at_198) rfl ((if0 _ _).trans (feq (by decide)).1) k) ?_
    show Goes p e below QQ (T67.setTop (mkF m 201 #[iv p1, iv p2, iv p3, iv p4, iv p5, iv 0, iv vv, rv b1, rv b4, rv b29, iv 1, iv 0, iv 0, .unset, .unset, .unset] []))
    refine Goes.on (fun t k => XS.iconst X67.here hx rfl (hb hby at_201) k) ?_
    show Goes p e below QQ (T67.setTop (mkF m 202 #[iv p1, iv p2, iv p3, iv p4, iv p5, iv 0, iv vv, rv b1, rv b4, rv b29, iv 1, iv 0, iv 0, .unset, .unset, .unset] [(.int 1)]))
    refine Goes.on (fun t k => XS.goto X67.here hx rfl (pc0 := 202) (pc' := 206) rfl (hb hby at_202) (by decide) (by decide) k) ?_
    show Goes p e below QQ (T67.setTop (mkF m 206 #[iv p1, iv p2, iv p3, iv p4, iv p5, iv 0, iv vv, rv b1, rv b4, rv b29, iv 1, iv 0, iv 0, .unset, .unset, .unset] [(.int 1)]))
    refine Goes.on (fun t k => XS.istore X67.here hx rfl (hb hby at_206) rfl (l' := #[iv p1, iv p2, iv p3, iv p4, iv p5, iv 0, iv vv, rv b1, rv b4, rv b29, iv 1, iv 0, iv 0, .unset, .unset, .unset]) rfl k) ?_
    show Goes p e below QQ (T67.setTop (mkF m 208 #[iv p1, iv p2, iv p3, iv p4, iv p5, iv 0, iv vv, rv b1, rv b4, rv b29, iv 1, iv 0, iv 0, .unset, .unset, .unset] []))
    refine Goes.on (fun t k => XS.aload X67.here hx rfl (hb hby at_208) rfl rfl k) ?_
    show Goes p e below QQ (T67.setTop (mkF m 210 #[iv p1, iv p2, iv p3, iv p4, iv p5, iv 0, iv vv, rv b1, rv b4, rv b29, iv 1, iv 0, iv 0, .unset, .unset, .unset] [(.ref b29)]))
    refine Goes.on (fun t k => XS.aload X67.here hx rfl (hb hby at_210) rfl rfl k) ?_
    show Goes p e below QQ (T67.setTop (mkF m 212 #[iv p1, iv p2, iv p3, iv p4, iv p5, iv 0, iv vv, rv b1, rv b4, rv b29, iv 1, iv 0, iv 0, .unset, .unset, .unset] [(.ref b4), (.ref b29)]))
    obtain ⟨cq68, kq68, q68a, q68b, q68c⟩ := isOf hZ e67 A29_57
    obtain ⟨_, _, ⟨T68, L68, k68, n68⟩, -, X68, ⟨Lc68, hQ68, l68, y68, z68⟩, st68⟩ := X67.virtualBack hx (y := (⟨"com/example/clew/clew/algebra/Step$Members", "advance", "([I)Z"⟩ : MethodName)) (z := (⟨"com/example/clew/clew/algebra/Step$Members", "advance", "([I)Z"⟩ : MethodName)) hown (mvT hZ (hw _ (List.mem_of_getElem? (i := 58) rfl))) (mvT hZ (hw _ (List.mem_of_getElem? (i := 59) rfl))) (notFace_of_selects (args := #[]) (mvT hZ (hw _ (List.mem_of_getElem? (i := 61) rfl)))) (mvT hZ (hw _ (List.mem_of_getElem? (i := 61) rfl))) (mvT hZ (hw _ (List.mem_of_getElem? (i := 60) rfl))) (by decide) (backOf (W := 0) (rmNo l Z a0 hw [] b29 b4 (0 : Int32) T53.heap n0 (Nat.le_trans Z0 K63.1) next_t end_t) hZ (hw _ (List.mem_of_getElem? (i := 62) rfl)) (hw _ (List.mem_of_getElem? (i := 3) rfl)) (by decide) (by decide)) q68a q68c (g := (mkF m 212 #[iv p1, iv p2, iv p3, iv p4, iv p5, iv 0, iv vv, rv b1, rv b4, rv b29, iv 1, iv 0, iv 0, .unset, .unset, .unset] [(.ref b4), (.ref b29)])) rfl (by rw [hml]; rfl) (Steps.refl _) (argsL := [(.ref b4)]) (rest := []) (lenOf pd_5 rfl) rfl (by show 2 * 0 + _ ≤ _; exact Nat.le_of_eq rfl) (hb hby at_212) (fun _ _ => ⟨rfl, e67, (by decide : 5 + 0 ≤ _), (by decide : 15 + 0 ≤ _)⟩)
    dsimp only [Pt.U, Pt.locs, Pt.cells, Pt.slots] at X68 l68 y68 z68 st68 hQ68
    subst l68 y68 z68
    obtain ⟨rfl, M68, e68⟩ := hQ68
    have N68 := Fr.app N67 M68
    refine Goes.on (fun t k => st68.trans k) ?_
    show Goes p e below QQ (T68.setTop (mkF m 215 #[iv p1, iv p2, iv p3, iv p4, iv p5, iv 0, iv vv, rv b1, rv b4, rv b29, iv 1, iv 0, iv 0, .unset, .unset, .unset] [(.int 0)]))
    refine Goes.on (fun t k => XS.istore X68.here hx rfl (hb hby at_215) rfl (l' := #[iv p1, iv p2, iv p3, iv p4, iv p5, iv 0, iv vv, rv b1, rv b4, rv b29, iv 1, iv 0, iv 0, iv 0, .unset, .unset]) rfl k) ?_
    show Goes p e below QQ (T68.setTop (mkF m 217 #[iv p1, iv p2, iv p3, iv p4, iv p5, iv 0, iv vv, rv b1, rv b4, rv b29, iv 1, iv 0, iv 0, iv 0, .unset, .unset] []))
    refine Goes.on (fun t k => XS.iload X68.here hx rfl (hb hby at_217) rfl k) ?_
    show Goes p e below QQ (T68.setTop (mkF m 219 #[iv p1, iv p2, iv p3, iv p4, iv p5, iv 0, iv vv, rv b1, rv b4, rv b29, iv 1, iv 0, iv 0, iv 0, .unset, .unset] [(.int 1)]))
    refine Goes.on (fun t k => XS.ifNo X68.here hx rfl (hb hby at_219) rfl ((if0 _ _).trans (feq (by decide)).1) k) ?_
    show Goes p e below QQ (T68.setTop (mkF m 222 #[iv p1, iv p2, iv p3, iv p4, iv p5, iv 0, iv vv, rv b1, rv b4, rv b29, iv 1, iv 0, iv 0, iv 0, .unset, .unset] []))
    refine Goes.on (fun t k => XS.iload X68.here hx rfl (hb hby at_222) rfl k) ?_
    show Goes p e below QQ (T68.setTop (mkF m 224 #[iv p1, iv p2, iv p3, iv p4, iv p5, iv 0, iv vv, rv b1, rv b4, rv b29, iv 1, iv 0, iv 0, iv 0, .unset, .unset] [(.int 0)]))
    refine Goes.on (fun t k => XS.aload X68.here hx rfl (hb hby at_224) rfl rfl k) ?_
    show Goes p e below QQ (T68.setTop (mkF m 226 #[iv p1, iv p2, iv p3, iv p4, iv p5, iv 0, iv vv, rv b1, rv b4, rv b29, iv 1, iv 0, iv 0, iv 0, .unset, .unset] [(.ref b4), (.int 0)]))
    refine Goes.on (fun t k => XS.iconst X68.here hx rfl (hb hby at_226) k) ?_
    show Goes p e below QQ (T68.setTop (mkF m 227 #[iv p1, iv p2, iv p3, iv p4, iv p5, iv 0, iv vv, rv b1, rv b4, rv b29, iv 1, iv 0, iv 0, iv 0, .unset, .unset] [(.int 2), (.ref b4), (.int 0)]))
    refine Goes.on (fun t k => XS.iload X68.here hx rfl (hb hby at_227) rfl k) ?_
    show Goes p e below QQ (T68.setTop (mkF m 229 #[iv p1, iv p2, iv p3, iv p4, iv p5, iv 0, iv vv, rv b1, rv b4, rv b29, iv 1, iv 0, iv 0, iv 0, .unset, .unset] [(.int 0), (.int 2), (.ref b4), (.int 0)]))
    refine Goes.on (fun t k => XS.iload X68.here hx rfl (hb hby at_229) rfl k) ?_
    show Goes p e below QQ (T68.setTop (mkF m 231 #[iv p1, iv p2, iv p3, iv p4, iv p5, iv 0, iv vv, rv b1, rv b4, rv b29, iv 1, iv 0, iv 0, iv 0, .unset, .unset] [(.int vv), (.int 0), (.int 2), (.ref b4), (.int 0)]))
    refine Goes.on (fun t k => XS.iloadN X68.here hx rfl (hb hby at_231) rfl k) ?_
    show Goes p e below QQ (T68.setTop (mkF m 232 #[iv p1, iv p2, iv p3, iv p4, iv p5, iv 0, iv vv, rv b1, rv b4, rv b29, iv 1, iv 0, iv 0, iv 0, .unset, .unset] [(.int p1), (.int vv), (.int 0), (.int 2), (.ref b4), (.int 0)]))
    refine Goes.on (fun t k => XS.iloadN X68.here hx rfl (hb hby at_232) rfl k) ?_
    show Goes p e below QQ (T68.setTop (mkF m 233 #[iv p1, iv p2, iv p3, iv p4, iv p5, iv 0, iv vv, rv b1, rv b4, rv b29, iv 1, iv 0, iv 0, iv 0, .unset, .unset] [(.int p2), (.int p1), (.int vv), (.int 0), (.int 2), (.ref b4), (.int 0)]))
    refine Goes.on (fun t k => XS.iloadN X68.here hx rfl (hb hby at_233) rfl k) ?_
    show Goes p e below QQ (T68.setTop (mkF m 234 #[iv p1, iv p2, iv p3, iv p4, iv p5, iv 0, iv vv, rv b1, rv b4, rv b29, iv 1, iv 0, iv 0, iv 0, .unset, .unset] [(.int p3), (.int p2), (.int p1), (.int vv), (.int 0), (.int 2), (.ref b4), (.int 0)]))
    refine Goes.on (fun t k => XS.iloadN X68.here hx rfl (hb hby at_234) rfl k) ?_
    show Goes p e below QQ (T68.setTop (mkF m 235 #[iv p1, iv p2, iv p3, iv p4, iv p5, iv 0, iv vv, rv b1, rv b4, rv b29, iv 1, iv 0, iv 0, iv 0, .unset, .unset] [(.int p4), (.int p3), (.int p2), (.int p1), (.int vv), (.int 0), (.int 2), (.ref b4), (.int 0)]))
    have Vq235 : Arv Z T53.heap b4 k4 .int (4 : Int32) ([(.int p4), (.int (p4 + (1 : Int32))), (.int (p4 + (2 : Int32))), (.int (p4 + (3 : Int32)))].set vv.toNatClampNeg (.int (p4 + vv))) (.int (0 : Int32)) := Vb_56
    obtain ⟨_, _, ⟨T69, L69, k69, n69⟩, -, X69, ⟨Lc69, hQ69, l69, y69, z69⟩, st69⟩ := Jvm.LawKit.callS X68 hx (y := (⟨"com/example/clew/clew/algebra/MembersAdvancePinLaw", "stepOk", "(Z[IIIIIIII)Z"⟩ : MethodName)) hown (mvT hZ (hw _ (List.mem_of_getElem? (i := 63) rfl))) (mvT hZ (hw _ (List.mem_of_getElem? (i := 64) rfl))) (mvT hZ (hw _ (List.mem_of_getElem? (i := 65) rfl))) (mvT hZ (hw _ (List.mem_of_getElem? (i := 66) rfl))) (by decide) (backOf (W := 0) (rmSO l Z a0 hw [] (0 : Int32) b4 (2 : Int32) (0 : Int32) vv p1 p2 p3 p4 k4 (p4 + vv) T53.heap n0 (Nat.le_trans Z0 K63.1) Vq235 hv4 (by decide) (by first | rfl | simp [expF])) hZ (hw _ (List.mem_of_getElem? (i := 66) rfl)) (hw _ (List.mem_of_getElem? (i := 65) rfl)) (by decide) (by decide)) (g := (mkF m 235 #[iv p1, iv p2, iv p3, iv p4, iv p5, iv 0, iv vv, rv b1, rv b4, rv b29, iv 1, iv 0, iv 0, iv 0, .unset, .unset] [(.int p4), (.int p3), (.int p2), (.int p1), (.int vv), (.int 0), (.int 2), (.ref b4), (.int 0)])) rfl (by rw [hml]; rfl) (argsL := [(.int 0), (.ref b4), (.int 2), (.int 0), (.int vv), (.int p1), (.int p2), (.int p3), (.int p4)]) (rest := []) (lenOf pd_6 rfl) rfl (by show 2 * 0 + _ ≤ _; exact Nat.le_of_eq rfl) (hb hby at_235) (fun _ _ => ⟨rfl, e68, (by decide : 5 + 0 ≤ _), (by decide : 15 + 0 ≤ _)⟩)
    dsimp only [Pt.U, Pt.locs, Pt.cells, Pt.slots] at X69 l69 y69 z69 st69 hQ69
    subst l69 y69 z69
    obtain ⟨rfl, M69, e69⟩ := hQ69
    have N69 := Fr.app N68 M69
    refine Goes.on (fun t k => st69 _ k) ?_
    show Goes p e below QQ (T69.setTop (mkF m 238 #[iv p1, iv p2, iv p3, iv p4, iv p5, iv 0, iv vv, rv b1, rv b4, rv b29, iv 1, iv 0, iv 0, iv 0, .unset, .unset] [(.int 1)]))
    refine Goes.on (fun t k => XS.ifNo X69.here hx rfl (hb hby at_238) rfl ((if0 _ _).trans (feq (by decide)).1) k) ?_
    show Goes p e below QQ (T69.setTop (mkF m 241 #[iv p1, iv p2, iv p3, iv p4, iv p5, iv 0, iv vv, rv b1, rv b4, rv b29, iv 1, iv 0, iv 0, iv 0, .unset, .unset] []))
    refine Goes.on (fun t k => XS.iconst X69.here hx rfl (hb hby at_241) k) ?_
    show Goes p e below QQ (T69.setTop (mkF m 242 #[iv p1, iv p2, iv p3, iv p4, iv p5, iv 0, iv vv, rv b1, rv b4, rv b29, iv 1, iv 0, iv 0, iv 0, .unset, .unset] [(.int 1)]))
    refine Goes.on (fun t k => XS.goto X69.here hx rfl (pc0 := 242) (pc' := 246) rfl (hb hby at_242) (by decide) (by decide) k) ?_
    show Goes p e below QQ (T69.setTop (mkF m 246 #[iv p1, iv p2, iv p3, iv p4, iv p5, iv 0, iv vv, rv b1, rv b4, rv b29, iv 1, iv 0, iv 0, iv 0, .unset, .unset] [(.int 1)]))
    refine Goes.on (fun t k => XS.istore X69.here hx rfl (hb hby at_246) rfl (l' := #[iv p1, iv p2, iv p3, iv p4, iv p5, iv 0, iv vv, rv b1, rv b4, rv b29, iv 1, iv 0, iv 0, iv 0, .unset, .unset]) rfl k) ?_
    show Goes p e below QQ (T69.setTop (mkF m 248 #[iv p1, iv p2, iv p3, iv p4, iv p5, iv 0, iv vv, rv b1, rv b4, rv b29, iv 1, iv 0, iv 0, iv 0, .unset, .unset] []))
    refine Goes.on (fun t k => XS.aload X69.here hx rfl (hb hby at_248) rfl rfl k) ?_
    show Goes p e below QQ (T69.setTop (mkF m 250 #[iv p1, iv p2, iv p3, iv p4, iv p5, iv 0, iv vv, rv b1, rv b4, rv b29, iv 1, iv 0, iv 0, iv 0, .unset, .unset] [(.ref b29)]))
    refine Goes.on (fun t k => XS.aload X69.here hx rfl (hb hby at_250) rfl rfl k) ?_
    show Goes p e below QQ (T69.setTop (mkF m 252 #[iv p1, iv p2, iv p3, iv p4, iv p5, iv 0, iv vv, rv b1, rv b4, rv b29, iv 1, iv 0, iv 0, iv 0, .unset, .unset] [(.ref b4), (.ref b29)]))
    obtain ⟨cq70, kq70, q70a, q70b, q70c⟩ := isOf hZ e69 A29_57
    obtain ⟨_, _, ⟨T70, L70, k70, n70⟩, -, X70, ⟨Lc70, hQ70, l70, y70, z70⟩, st70⟩ := X69.virtualBack hx (y := (⟨"com/example/clew/clew/algebra/Step$Members", "advance", "([I)Z"⟩ : MethodName)) (z := (⟨"com/example/clew/clew/algebra/Step$Members", "advance", "([I)Z"⟩ : MethodName)) hown (mvT hZ (hw _ (List.mem_of_getElem? (i := 58) rfl))) (mvT hZ (hw _ (List.mem_of_getElem? (i := 59) rfl))) (notFace_of_selects (args := #[]) (mvT hZ (hw _ (List.mem_of_getElem? (i := 61) rfl)))) (mvT hZ (hw _ (List.mem_of_getElem? (i := 61) rfl))) (mvT hZ (hw _ (List.mem_of_getElem? (i := 60) rfl))) (by decide) (backOf (W := 0) (rmNo l Z a0 hw [] b29 b4 (0 : Int32) T53.heap n0 (Nat.le_trans Z0 K63.1) next_t end_t) hZ (hw _ (List.mem_of_getElem? (i := 62) rfl)) (hw _ (List.mem_of_getElem? (i := 3) rfl)) (by decide) (by decide)) q70a q70c (g := (mkF m 252 #[iv p1, iv p2, iv p3, iv p4, iv p5, iv 0, iv vv, rv b1, rv b4, rv b29, iv 1, iv 0, iv 0, iv 0, .unset, .unset] [(.ref b4), (.ref b29)])) rfl (by rw [hml]; rfl) (Steps.refl _) (argsL := [(.ref b4)]) (rest := []) (lenOf pd_5 rfl) rfl (by show 2 * 0 + _ ≤ _; exact Nat.le_of_eq rfl) (hb hby at_252) (fun _ _ => ⟨rfl, e69, (by decide : 5 + 0 ≤ _), (by decide : 15 + 0 ≤ _)⟩)
    dsimp only [Pt.U, Pt.locs, Pt.cells, Pt.slots] at X70 l70 y70 z70 st70 hQ70
    subst l70 y70 z70
    obtain ⟨rfl, M70, e70⟩ := hQ70
    have N70 := Fr.app N69 M70
    refine Goes.on (fun t k => st70.trans k) ?_
    show Goes p e below QQ (T70.setTop (mkF m 255 #[iv p1, iv p2, iv p3, iv p4, iv p5, iv 0, iv vv, rv b1, rv b4, rv b29, iv 1, iv 0, iv 0, iv 0, .unset, .unset] [(.int 0)]))
    refine Goes.on (fun t k => XS.istore X70.here hx rfl (hb hby at_255) rfl (l' := #[iv p1, iv p2, iv p3, iv p4, iv p5, iv 0, iv vv, rv b1, rv b4, rv b29, iv 1, iv 0, iv 0, iv 0, iv 0, .unset]) rfl k) ?_
    show Goes p e below QQ (T70.setTop (mkF m 257 #[iv p1, iv p2, iv p3, iv p4, iv p5, iv 0, iv vv, rv b1, rv b4, rv b29, iv 1, iv 0, iv 0, iv 0, iv 0, .unset] []))
    refine Goes.on (fun t k => XS.iload X70.here hx rfl (hb hby at_257) rfl k) ?_
    show Goes p e below QQ (T70.setTop (mkF m 259 #[iv p1, iv p2, iv p3, iv p4, iv p5, iv 0, iv vv, rv b1, rv b4, rv b29, iv 1, iv 0, iv 0, iv 0, iv 0, .unset] [(.int 1)]))
    refine Goes.on (fun t k => XS.ifNo X70.here hx rfl (hb hby at_259) rfl ((if0 _ _).trans (feq (by decide)).1) k) ?_
    show Goes p e below QQ (T70.setTop (mkF m 262 #[iv p1, iv p2, iv p3, iv p4, iv p5, iv 0, iv vv, rv b1, rv b4, rv b29, iv 1, iv 0, iv 0, iv 0, iv 0, .unset] []))
    refine Goes.on (fun t k => XS.iload X70.here hx rfl (hb hby at_262) rfl k) ?_
    show Goes p e below QQ (T70.setTop (mkF m 264 #[iv p1, iv p2, iv p3, iv p4, iv p5, iv 0, iv vv, rv b1, rv b4, rv b29, iv 1, iv 0, iv 0, iv 0, iv 0, .unset] [(.int 0)]))
    refine Goes.on (fun t k => XS.aload X70.here hx rfl (hb hby at_264) rfl rfl k) ?_
    show Goes p e below QQ (T70.setTop (mkF m 266 #[iv p1, iv p2, iv p3, iv p4, iv p5, iv 0, iv vv, rv b1, rv b4, rv b29, iv 1, iv 0, iv 0, iv 0, iv 0, .unset] [(.ref b4), (.int 0)]))
    refine Goes.on (fun t k => XS.iconst X70.here hx rfl (hb hby at_266) k) ?_
    show Goes p e below QQ (T70.setTop (mkF m 267 #[iv p1, iv p2, iv p3, iv p4, iv p5, iv 0, iv vv, rv b1, rv b4, rv b29, iv 1, iv 0, iv 0, iv 0, iv 0, .unset] [(.int 3), (.ref b4), (.int 0)]))
    refine Goes.on (fun t k => XS.iload X70.here hx rfl (hb hby at_267) rfl k) ?_
    show Goes p e below QQ (T70.setTop (mkF m 269 #[iv p1, iv p2, iv p3, iv p4, iv p5, iv 0, iv vv, rv b1, rv b4, rv b29, iv 1, iv 0, iv 0, iv 0, iv 0, .unset] [(.int 0), (.int 3), (.ref b4), (.int 0)]))
    refine Goes.on (fun t k => XS.iload X70.here hx rfl (hb hby at_269) rfl k) ?_
    show Goes p e below QQ (T70.setTop (mkF m 271 #[iv p1, iv p2, iv p3, iv p4, iv p5, iv 0, iv vv, rv b1, rv b4, rv b29, iv 1, iv 0, iv 0, iv 0, iv 0, .unset] [(.int vv), (.int 0), (.int 3), (.ref b4), (.int 0)]))
    refine Goes.on (fun t k => XS.iloadN X70.here hx rfl (hb hby at_271) rfl k) ?_
    show Goes p e below QQ (T70.setTop (mkF m 272 #[iv p1, iv p2, iv p3, iv p4, iv p5, iv 0, iv vv, rv b1, rv b4, rv b29, iv 1, iv 0, iv 0, iv 0, iv 0, .unset] [(.int p1), (.int vv), (.int 0), (.int 3), (.ref b4), (.int 0)]))
    refine Goes.on (fun t k => XS.iloadN X70.here hx rfl (hb hby at_272) rfl k) ?_
    show Goes p e below QQ (T70.setTop (mkF m 273 #[iv p1, iv p2, iv p3, iv p4, iv p5, iv 0, iv vv, rv b1, rv b4, rv b29, iv 1, iv 0, iv 0, iv 0, iv 0, .unset] [(.int p2), (.int p1), (.int vv), (.int 0), (.int 3), (.ref b4), (.int 0)]))
    refine Goes.on (fun t k => XS.iloadN X70.here hx rfl (hb hby at_273) rfl k) ?_
    show Goes p e below QQ (T70.setTop (mkF m 274 #[iv p1, iv p2, iv p3, iv p4, iv p5, iv 0, iv vv, rv b1, rv b4, rv b29, iv 1, iv 0, iv 0, iv 0, iv 0, .unset] [(.int p3), (.int p2), (.int p1), (.int vv), (.int 0), (.int 3), (.ref b4), (.int 0)]))
    refine Goes.on (fun t k => XS.iloadN X70.here hx rfl (hb hby at_274) rfl k) ?_
    show Goes p e below QQ (T70.setTop (mkF m 275 #[iv p1, iv p2, iv p3, iv p4, iv p5, iv 0, iv vv, rv b1, rv b4, rv b29, iv 1, iv 0, iv 0, iv 0, iv 0, .unset] [(.int p4), (.int p3), (.int p2), (.int p1), (.int vv), (.int 0), (.int 3), (.ref b4), (.int 0)]))
    have Vq275 : Arv Z T53.heap b4 k4 .int (4 : Int32) ([(.int p4), (.int (p4 + (1 : Int32))), (.int (p4 + (2 : Int32))), (.int (p4 + (3 : Int32)))].set vv.toNatClampNeg (.int (p4 + vv))) (.int (0 : Int32)) := Vb_56
    obtain ⟨_, _, ⟨T71, L71, k71, n71⟩, -, X71, ⟨Lc71, hQ71, l71, y71, z71⟩, st71⟩ := Jvm.LawKit.callS X70 hx (y := (⟨"com/example/clew/clew/algebra/MembersAdvancePinLaw", "stepOk", "(Z[IIIIIIII)Z"⟩ : MethodName)) hown (mvT hZ (hw _ (List.mem_of_getElem? (i := 63) rfl))) (mvT hZ (hw _ (List.mem_of_getElem? (i := 64) rfl))) (mvT hZ (hw _ (List.mem_of_getElem? (i := 65) rfl))) (mvT hZ (hw _ (List.mem_of_getElem? (i := 66) rfl))) (by decide) (backOf (W := 0) (rmSO l Z a0 hw [] (0 : Int32) b4 (3 : Int32) (0 : Int32) vv p1 p2 p3 p4 k4 (p4 + vv) T53.heap n0 (Nat.le_trans Z0 K63.1) Vq275 hv4 (by decide) (by first | rfl | simp [expF])) hZ (hw _ (List.mem_of_getElem? (i := 66) rfl)) (hw _ (List.mem_of_getElem? (i := 65) rfl)) (by decide) (by decide)) (g := (mkF m 275 #[iv p1, iv p2, iv p3, iv p4, iv p5, iv 0, iv vv, rv b1, rv b4, rv b29, iv 1, iv 0, iv 0, iv 0, iv 0, .unset] [(.int p4), (.int p3), (.int p2), (.int p1), (.int vv), (.int 0), (.int 3), (.ref b4), (.int 0)])) rfl (by rw [hml]; rfl) (argsL := [(.int 0), (.ref b4), (.int 3), (.int 0), (.int vv), (.int p1), (.int p2), (.int p3), (.int p4)]) (rest := []) (lenOf pd_6 rfl) rfl (by show 2 * 0 + _ ≤ _; exact Nat.le_of_eq rfl) (hb hby at_275) (fun _ _ => ⟨rfl, e70, (by decide : 5 + 0 ≤ _), (by decide : 15 + 0 ≤ _)⟩)
    dsimp only [Pt.U, Pt.locs, Pt.cells, Pt.slots] at X71 l71 y71 z71 st71 hQ71
    subst l71 y71 z71
    obtain ⟨rfl, M71, e71⟩ := hQ71
    have N71 := Fr.app N70 M71
    refine Goes.on (fun t k => st71 _ k) ?_
    show Goes p e below QQ (T71.setTop (mkF m 278 #[iv p1, iv p2, iv p3, iv p4, iv p5, iv 0, iv vv, rv b1, rv b4, rv b29, iv 1, iv 0, iv 0, iv 0, iv 0, .unset] [(.int 1)]))
    refine Goes.on (fun t k => XS.ifNo X71.here hx rfl (hb hby at_278) rfl ((if0 _ _).trans (feq (by decide)).1) k) ?_
    show Goes p e below QQ (T71.setTop (mkF m 281 #[iv p1, iv p2, iv p3, iv p4, iv p5, iv 0, iv vv, rv b1, rv b4, rv b29, iv 1, iv 0, iv 0, iv 0, iv 0, .unset] []))
    refine Goes.on (fun t k => XS.iconst X71.here hx rfl (hb hby at_281) k) ?_
    show Goes p e below QQ (T71.setTop (mkF m 282 #[iv p1, iv p2, iv p3, iv p4, iv p5, iv 0, iv vv, rv b1, rv b4, rv b29, iv 1, iv 0, iv 0, iv 0, iv 0, .unset] [(.int 1)]))
    refine Goes.on (fun t k => XS.goto X71.here hx rfl (pc0 := 282) (pc' := 286) rfl (hb hby at_282) (by decide) (by decide) k) ?_
    show Goes p e below QQ (T71.setTop (mkF m 286 #[iv p1, iv p2, iv p3, iv p4, iv p5, iv 0, iv vv, rv b1, rv b4, rv b29, iv 1, iv 0, iv 0, iv 0, iv 0, .unset] [(.int 1)]))
    refine Goes.on (fun t k => XS.istore X71.here hx rfl (hb hby at_286) rfl (l' := #[iv p1, iv p2, iv p3, iv p4, iv p5, iv 0, iv vv, rv b1, rv b4, rv b29, iv 1, iv 0, iv 0, iv 0, iv 0, .unset]) rfl k) ?_
    show Goes p e below QQ (T71.setTop (mkF m 288 #[iv p1, iv p2, iv p3, iv p4, iv p5, iv 0, iv vv, rv b1, rv b4, rv b29, iv 1, iv 0, iv 0, iv 0, iv 0, .unset] []))
    refine Goes.on (fun t k => XS.aload X71.here hx rfl (hb hby at_288) rfl rfl k) ?_
    show Goes p e below QQ (T71.setTop (mkF m 290 #[iv p1, iv p2, iv p3, iv p4, iv p5, iv 0, iv vv, rv b1, rv b4, rv b29, iv 1, iv 0, iv 0, iv 0, iv 0, .unset] [(.ref b29)]))
    refine Goes.on (fun t k => XS.aload X71.here hx rfl (hb hby at_290) rfl rfl k) ?_
    show Goes p e below QQ (T71.setTop (mkF m 292 #[iv p1, iv p2, iv p3, iv p4, iv p5, iv 0, iv vv, rv b1, rv b4, rv b29, iv 1, iv 0, iv 0, iv 0, iv 0, .unset] [(.ref b4), (.ref b29)]))
    obtain ⟨cq72, kq72, q72a, q72b, q72c⟩ := isOf hZ e71 A29_57
    obtain ⟨_, _, ⟨T72, L72, k72, n72⟩, -, X72, ⟨Lc72, hQ72, l72, y72, z72⟩, st72⟩ := X71.virtualBack hx (y := (⟨"com/example/clew/clew/algebra/Step$Members", "advance", "([I)Z"⟩ : MethodName)) (z := (⟨"com/example/clew/clew/algebra/Step$Members", "advance", "([I)Z"⟩ : MethodName)) hown (mvT hZ (hw _ (List.mem_of_getElem? (i := 58) rfl))) (mvT hZ (hw _ (List.mem_of_getElem? (i := 59) rfl))) (notFace_of_selects (args := #[]) (mvT hZ (hw _ (List.mem_of_getElem? (i := 61) rfl)))) (mvT hZ (hw _ (List.mem_of_getElem? (i := 61) rfl))) (mvT hZ (hw _ (List.mem_of_getElem? (i := 60) rfl))) (by decide) (backOf (W := 0) (rmNo l Z a0 hw [] b29 b4 (0 : Int32) T53.heap n0 (Nat.le_trans Z0 K63.1) next_t end_t) hZ (hw _ (List.mem_of_getElem? (i := 62) rfl)) (hw _ (List.mem_of_getElem? (i := 3) rfl)) (by decide) (by decide)) q72a q72c (g := (mkF m 292 #[iv p1, iv p2, iv p3, iv p4, iv p5, iv 0, iv vv, rv b1, rv b4, rv b29, iv 1, iv 0, iv 0, iv 0, iv 0, .unset] [(.ref b4), (.ref b29)])) rfl (by rw [hml]; rfl) (Steps.refl _) (argsL := [(.ref b4)]) (rest := []) (lenOf pd_5 rfl) rfl (by show 2 * 0 + _ ≤ _; exact Nat.le_of_eq rfl) (hb hby at_292) (fun _ _ => ⟨rfl, e71, (by decide : 5 + 0 ≤ _), (by decide : 15 + 0 ≤ _)⟩)
    dsimp only [Pt.U, Pt.locs, Pt.cells, Pt.slots] at X72 l72 y72 z72 st72 hQ72
    subst l72 y72 z72
    obtain ⟨rfl, M72, e72⟩ := hQ72
    have N72 := Fr.app N71 M72
    refine Goes.on (fun t k => st72.trans k) ?_
    show Goes p e below QQ (T72.setTop (mkF m 295 #[iv p1, iv p2, iv p3, iv p4, iv p5, iv 0, iv vv, rv b1, rv b4, rv b29, iv 1, iv 0, iv 0, iv 0, iv 0, .unset] [(.int 0)]))
    refine Goes.on (fun t k => XS.istore X72.here hx rfl (hb hby at_295) rfl (l' := #[iv p1, iv p2, iv p3, iv p4, iv p5, iv 0, iv vv, rv b1, rv b4, rv b29, iv 1, iv 0, iv 0, iv 0, iv 0, iv 0]) rfl k) ?_
    show Goes p e below QQ (T72.setTop (mkF m 297 #[iv p1, iv p2, iv p3, iv p4, iv p5, iv 0, iv vv, rv b1, rv b4, rv b29, iv 1, iv 0, iv 0, iv 0, iv 0, iv 0] []))
    refine Goes.on (fun t k => XS.iload X72.here hx rfl (hb hby at_297) rfl k) ?_
    show Goes p e below QQ (T72.setTop (mkF m 299 #[iv p1, iv p2, iv p3, iv p4, iv p5, iv 0, iv vv, rv b1, rv b4, rv b29, iv 1, iv 0, iv 0, iv 0, iv 0, iv 0] [(.int 1)]))
    refine Goes.on (fun t k => XS.ifNo X72.here hx rfl (hb hby at_299) rfl ((if0 _ _).trans (feq (by decide)).1) k) ?_
    show Goes p e below QQ (T72.setTop (mkF m 302 #[iv p1, iv p2, iv p3, iv p4, iv p5, iv 0, iv vv, rv b1, rv b4, rv b29, iv 1, iv 0, iv 0, iv 0, iv 0, iv 0] []))
    refine Goes.on (fun t k => XS.iload X72.here hx rfl (hb hby at_302) rfl k) ?_
    show Goes p e below QQ (T72.setTop (mkF m 304 #[iv p1, iv p2, iv p3, iv p4, iv p5, iv 0, iv vv, rv b1, rv b4, rv b29, iv 1, iv 0, iv 0, iv 0, iv 0, iv 0] [(.int 0)]))
    refine Goes.on (fun t k => XS.aload X72.here hx rfl (hb hby at_304) rfl rfl k) ?_
    show Goes p e below QQ (T72.setTop (mkF m 306 #[iv p1, iv p2, iv p3, iv p4, iv p5, iv 0, iv vv, rv b1, rv b4, rv b29, iv 1, iv 0, iv 0, iv 0, iv 0, iv 0] [(.ref b4), (.int 0)]))
    refine Goes.on (fun t k => XS.iconst X72.here hx rfl (hb hby at_306) k) ?_
    show Goes p e below QQ (T72.setTop (mkF m 307 #[iv p1, iv p2, iv p3, iv p4, iv p5, iv 0, iv vv, rv b1, rv b4, rv b29, iv 1, iv 0, iv 0, iv 0, iv 0, iv 0] [(.int 4), (.ref b4), (.int 0)]))
    refine Goes.on (fun t k => XS.iload X72.here hx rfl (hb hby at_307) rfl k) ?_
    show Goes p e below QQ (T72.setTop (mkF m 309 #[iv p1, iv p2, iv p3, iv p4, iv p5, iv 0, iv vv, rv b1, rv b4, rv b29, iv 1, iv 0, iv 0, iv 0, iv 0, iv 0] [(.int 0), (.int 4), (.ref b4), (.int 0)]))
    refine Goes.on (fun t k => XS.iload X72.here hx rfl (hb hby at_309) rfl k) ?_
    show Goes p e below QQ (T72.setTop (mkF m 311 #[iv p1, iv p2, iv p3, iv p4, iv p5, iv 0, iv vv, rv b1, rv b4, rv b29, iv 1, iv 0, iv 0, iv 0, iv 0, iv 0] [(.int vv), (.int 0), (.int 4), (.ref b4), (.int 0)]))
    refine Goes.on (fun t k => XS.iloadN X72.here hx rfl (hb hby at_311) rfl k) ?_
    show Goes p e below QQ (T72.setTop (mkF m 312 #[iv p1, iv p2, iv p3, iv p4, iv p5, iv 0, iv vv, rv b1, rv b4, rv b29, iv 1, iv 0, iv 0, iv 0, iv 0, iv 0] [(.int p1), (.int vv), (.int 0), (.int 4), (.ref b4), (.int 0)]))
    refine Goes.on (fun t k => XS.iloadN X72.here hx rfl (hb hby at_312) rfl k) ?_
    show Goes p e below QQ (T72.setTop (mkF m 313 #[iv p1, iv p2, iv p3, iv p4, iv p5, iv 0, iv vv, rv b1, rv b4, rv b29, iv 1, iv 0, iv 0, iv 0, iv 0, iv 0] [(.int p2), (.int p1), (.int vv), (.int 0), (.int 4), (.ref b4), (.int 0)]))
    refine Goes.on (fun t k => XS.iloadN X72.here hx rfl (hb hby at_313) rfl k) ?_
    show Goes p e below QQ (T72.setTop (mkF m 314 #[iv p1, iv p2, iv p3, iv p4, iv p5, iv 0, iv vv, rv b1, rv b4, rv b29, iv 1, iv 0, iv 0, iv 0, iv 0, iv 0] [(.int p3), (.int p2), (.int p1), (.int vv), (.int 0), (.int 4), (.ref b4), (.int 0)]))
    refine Goes.on (fun t k => XS.iloadN X72.here hx rfl (hb hby at_314) rfl k) ?_
    show Goes p e below QQ (T72.setTop (mkF m 315 #[iv p1, iv p2, iv p3, iv p4, iv p5, iv 0, iv vv, rv b1, rv b4, rv b29, iv 1, iv 0, iv 0, iv 0, iv 0, iv 0] [(.int p4), (.int p3), (.int p2), (.int p1), (.int vv), (.int 0), (.int 4), (.ref b4), (.int 0)]))
    have Vq315 : Arv Z T53.heap b4 k4 .int (4 : Int32) ([(.int p4), (.int (p4 + (1 : Int32))), (.int (p4 + (2 : Int32))), (.int (p4 + (3 : Int32)))].set vv.toNatClampNeg (.int (p4 + vv))) (.int (0 : Int32)) := Vb_56
    obtain ⟨_, _, ⟨T73, L73, k73, n73⟩, -, X73, ⟨Lc73, hQ73, l73, y73, z73⟩, st73⟩ := Jvm.LawKit.callS X72 hx (y := (⟨"com/example/clew/clew/algebra/MembersAdvancePinLaw", "stepOk", "(Z[IIIIIIII)Z"⟩ : MethodName)) hown (mvT hZ (hw _ (List.mem_of_getElem? (i := 63) rfl))) (mvT hZ (hw _ (List.mem_of_getElem? (i := 64) rfl))) (mvT hZ (hw _ (List.mem_of_getElem? (i := 65) rfl))) (mvT hZ (hw _ (List.mem_of_getElem? (i := 66) rfl))) (by decide) (backOf (W := 0) (rmSO l Z a0 hw [] (0 : Int32) b4 (4 : Int32) (0 : Int32) vv p1 p2 p3 p4 k4 (p4 + vv) T53.heap n0 (Nat.le_trans Z0 K63.1) Vq315 hv4 (by decide) (by first | rfl | simp [expF])) hZ (hw _ (List.mem_of_getElem? (i := 66) rfl)) (hw _ (List.mem_of_getElem? (i := 65) rfl)) (by decide) (by decide)) (g := (mkF m 315 #[iv p1, iv p2, iv p3, iv p4, iv p5, iv 0, iv vv, rv b1, rv b4, rv b29, iv 1, iv 0, iv 0, iv 0, iv 0, iv 0] [(.int p4), (.int p3), (.int p2), (.int p1), (.int vv), (.int 0), (.int 4), (.ref b4), (.int 0)])) rfl (by rw [hml]; rfl) (argsL := [(.int 0), (.ref b4), (.int 4), (.int 0), (.int vv), (.int p1), (.int p2), (.int p3), (.int p4)]) (rest := []) (lenOf pd_6 rfl) rfl (by show 2 * 0 + _ ≤ _; exact Nat.le_of_eq rfl) (hb hby at_315) (fun _ _ => ⟨rfl, e72, (by decide : 5 + 0 ≤ _), (by decide : 15 + 0 ≤ _)⟩)
    dsimp only [Pt.U, Pt.locs, Pt.cells, Pt.slots] at X73 l73 y73 z73 st73 hQ73
    subst l73 y73 z73
    obtain ⟨rfl, M73, e73⟩ := hQ73
    have N73 := Fr.app N72 M73
    refine Goes.on (fun t k => st73 _ k) ?_
    show Goes p e below QQ (T73.setTop (mkF m 318 #[iv p1, iv p2, iv p3, iv p4, iv p5, iv 0, iv vv, rv b1, rv b4, rv b29, iv 1, iv 0, iv 0, iv 0, iv 0, iv 0] [(.int 1)]))
    refine Goes.on (fun t k => XS.ifNo X73.here hx rfl (hb hby at_318) rfl ((if0 _ _).trans (feq (by decide)).1) k) ?_
    show Goes p e below QQ (T73.setTop (mkF m 321 #[iv p1, iv p2, iv p3, iv p4, iv p5, iv 0, iv vv, rv b1, rv b4, rv b29, iv 1, iv 0, iv 0, iv 0, iv 0, iv 0] []))
    refine Goes.on (fun t k => XS.iconst X73.here hx rfl (hb hby at_321) k) ?_
    show Goes p e below QQ (T73.setTop (mkF m 322 #[iv p1, iv p2, iv p3, iv p4, iv p5, iv 0, iv vv, rv b1, rv b4, rv b29, iv 1, iv 0, iv 0, iv 0, iv 0, iv 0] [(.int 1)]))
    refine Goes.on (fun t k => XS.goto X73.here hx rfl (pc0 := 322) (pc' := 326) rfl (hb hby at_322) (by decide) (by decide) k) ?_
    show Goes p e below QQ (T73.setTop (mkF m 326 #[iv p1, iv p2, iv p3, iv p4, iv p5, iv 0, iv vv, rv b1, rv b4, rv b29, iv 1, iv 0, iv 0, iv 0, iv 0, iv 0] [(.int 1)]))
    refine Goes.on (fun t k => XS.istore X73.here hx rfl (hb hby at_326) rfl (l' := #[iv p1, iv p2, iv p3, iv p4, iv p5, iv 0, iv vv, rv b1, rv b4, rv b29, iv 1, iv 0, iv 0, iv 0, iv 0, iv 0]) rfl k) ?_
    show Goes p e below QQ (T73.setTop (mkF m 328 #[iv p1, iv p2, iv p3, iv p4, iv p5, iv 0, iv vv, rv b1, rv b4, rv b29, iv 1, iv 0, iv 0, iv 0, iv 0, iv 0] []))
    refine Goes.on (fun t k => XS.iload X73.here hx rfl (hb hby at_328) rfl k) ?_
    show Goes p e below QQ (T73.setTop (mkF m 330 #[iv p1, iv p2, iv p3, iv p4, iv p5, iv 0, iv vv, rv b1, rv b4, rv b29, iv 1, iv 0, iv 0, iv 0, iv 0, iv 0] [(.int 1)]))
    exact Goes.rN X73 hx (t := .boolean) hret (by simp) hlk (hb hby at_330) hQQ ⟨rfl, N73⟩ (by decide) (by decide)
  · show Goes p e below QQ (s₁.setTop (mkF m 14 #[iv p1, iv p2, iv p3, iv p4, iv p5, iv 1, iv vv, .unset, .unset, .unset, .unset, .unset, .unset, .unset, .unset, .unset] []))
    refine Goes.on (fun t k => XS.iload X0.here hx rfl (hb hby at_14) rfl k) ?_
    show Goes p e below QQ (s₁.setTop (mkF m 16 #[iv p1, iv p2, iv p3, iv p4, iv p5, iv 1, iv vv, .unset, .unset, .unset, .unset, .unset, .unset, .unset, .unset, .unset] [(.int 1)]))
    refine Goes.on (fun t k => XS.ifYes X0.here hx rfl (pc0 := 16) (pc' := 25) rfl (hb hby at_16) rfl ((if0 _ _).trans (feq (by decide)).2) (by decide) (by decide) k) ?_
    show Goes p e below QQ (s₁.setTop (mkF m 25 #[iv p1, iv p2, iv p3, iv p4, iv p5, iv 1, iv vv, .unset, .unset, .unset, .unset, .unset, .unset, .unset, .unset, .unset] []))
    refine Goes.on (fun t k => XS.iload X0.here hx rfl (hb hby at_25) rfl k) ?_
    show Goes p e below QQ (s₁.setTop (mkF m 27 #[iv p1, iv p2, iv p3, iv p4, iv p5, iv 1, iv vv, .unset, .unset, .unset, .unset, .unset, .unset, .unset, .unset, .unset] [(.int 1)]))
    refine Goes.on (fun t k => XS.iconst X0.here hx rfl (hb hby at_27) k) ?_
    show Goes p e below QQ (s₁.setTop (mkF m 28 #[iv p1, iv p2, iv p3, iv p4, iv p5, iv 1, iv vv, .unset, .unset, .unset, .unset, .unset, .unset, .unset, .unset, .unset] [(.int 1), (.int 1)]))
    refine Goes.on (fun t k => XS.icmpNo X0.here hx rfl (hb hby at_28) rfl (teq (by decide)).2 k) ?_
    show Goes p e below QQ (s₁.setTop (mkF m 31 #[iv p1, iv p2, iv p3, iv p4, iv p5, iv 1, iv vv, .unset, .unset, .unset, .unset, .unset, .unset, .unset, .unset, .unset] []))
    refine Goes.on (fun t k => XS.iconst X0.here hx rfl (hb hby at_31) k) ?_
    show Goes p e below QQ (s₁.setTop (mkF m 32 #[iv p1, iv p2, iv p3, iv p4, iv p5, iv 1, iv vv, .unset, .unset, .unset, .unset, .unset, .unset, .unset, .unset, .unset] [(.int 1)]))
    obtain ⟨T74, h74, k74, X74, e74, E74, A74, st74⟩ := newP X0 hx hZ (hw _ (List.mem_of_getElem? (i := 0) rfl)) e0 (g := (mkF m 32 #[iv p1, iv p2, iv p3, iv p4, iv p5, iv 1, iv vv, .unset, .unset, .unset, .unset, .unset, .unset, .unset, .unset, .unset] [(.int 1)])) rfl (hb hby at_32) rfl (by decide) (cap := 1) (by decide) (by decide) (by decide) (by decide)
    obtain ⟨b74, g74⟩ : ∃ z, z = h0.size := ⟨_, rfl⟩
    rw [← g74] at A74 st74
    have sz_b74 : h0.size ≤ b74 := Nat.le_trans K0.1 (Nat.le_of_eq g74.symm)
    have g_b74 : n0 ≤ b74 := Nat.le_trans Z0 sz_b74
    have O_75 := O_0.ext E74
    have K74 := K0.ext E74
    have V_76 : Arv Z h74 b74 k74 .int (1 : Int32) [(.int 0)] (.int 0) := (Arv.new A74 (by decide)).pad (pad_rep [] (.int 0) 1)
    refine Goes.on (fun t k => st74 t k) ?_
    show Goes p e below QQ (T74.setTop (mkF m 34 #[iv p1, iv p2, iv p3, iv p4, iv p5, iv 1, iv vv, .unset, .unset, .unset, .unset, .unset, .unset, .unset, .unset, .unset] [(.ref b74)]))
    refine Goes.on (fun t k => XS.dup X74.here hx rfl (hb hby at_34) rfl rfl k) ?_
    show Goes p e below QQ (T74.setTop (mkF m 35 #[iv p1, iv p2, iv p3, iv p4, iv p5, iv 1, iv vv, .unset, .unset, .unset, .unset, .unset, .unset, .unset, .unset, .unset] [(.ref b74), (.ref b74)]))
    refine Goes.on (fun t k => XS.iconst X74.here hx rfl (hb hby at_35) k) ?_
    show Goes p e below QQ (T74.setTop (mkF m 36 #[iv p1, iv p2, iv p3, iv p4, iv p5, iv 1, iv vv, .unset, .unset, .unset, .unset, .unset, .unset, .unset, .unset, .unset] [(.int 0), (.ref b74), (.ref b74)]))
    refine Goes.on (fun t k => XS.iloadN X74.here hx rfl (hb hby at_36) rfl k) ?_
    show Goes p e below QQ (T74.setTop (mkF m 37 #[iv p1, iv p2, iv p3, iv p4, iv p5, iv 1, iv vv, .unset, .unset, .unset, .unset, .unset, .unset, .unset, .unset, .unset] [(.int p1), (.int 0), (.ref b74), (.ref b74)]))
    obtain ⟨cl77, Ar77, aq77, aS77, aN77, aH77, aG77⟩ := id V_76
    have hin77 := inb_of (j := (0 : Int32)) aS77 ⟨by decide, by decide⟩
    obtain ⟨T78, h78, X78, e78, W78, st78⟩ := stI X74 hx hZ e74 Ar77 (j := (0 : Int32)) hin77 (g := (mkF m 37 #[iv p1, iv p2, iv p3, iv p4, iv p5, iv 1, iv vv, .unset, .unset, .unset, .unset, .unset, .unset, .unset, .unset, .unset] [(.int p1), (.int 0), (.ref b74), (.ref b74)])) rfl rfl (hb hby at_37)
    have O_79 := O_75.wr W78 g_b74
    have K78 := K74.wr W78 (Or.inr sz_b74)
    have N78 := Fr.snoc X78 N0 g_b74
    have V_80 : Arv Z h78 b74 k74 .int (1 : Int32) [(.int p1)] (.int 0) := Arv.set Ar77 aq77 aS77 aN77 aH77 aG77 rfl W78 0 rfl (Nat.le_of_ble_eq_true rfl)
    refine Goes.on (fun t k => st78 t k) ?_
    show Goes p e below QQ (T78.setTop (mkF m 38 #[iv p1, iv p2, iv p3, iv p4, iv p5, iv 1, iv vv, .unset, .unset, .unset, .unset, .unset, .unset, .unset, .unset, .unset] [(.ref b74)]))
    refine Goes.on (fun t k => XS.goto X78.here hx rfl (pc0 := 38) (pc' := 76) rfl (hb hby at_38) (by decide) (by decide) k) ?_
    show Goes p e below QQ (T78.setTop (mkF m 76 #[iv p1, iv p2, iv p3, iv p4, iv p5, iv 1, iv vv, .unset, .unset, .unset, .unset, .unset, .unset, .unset, .unset, .unset] [(.ref b74)]))
    refine Goes.on (fun t k => XS.astore X78.here hx rfl (hb hby at_76) rfl rfl (l' := #[iv p1, iv p2, iv p3, iv p4, iv p5, iv 1, iv vv, rv b74, .unset, .unset, .unset, .unset, .unset, .unset, .unset, .unset]) rfl k) ?_
    show Goes p e below QQ (T78.setTop (mkF m 78 #[iv p1, iv p2, iv p3, iv p4, iv p5, iv 1, iv vv, rv b74, .unset, .unset, .unset, .unset, .unset, .unset, .unset, .unset] []))
    refine Goes.on (fun t k => XS.iconst X78.here hx rfl (hb hby at_78) k) ?_
    show Goes p e below QQ (T78.setTop (mkF m 79 #[iv p1, iv p2, iv p3, iv p4, iv p5, iv 1, iv vv, rv b74, .unset, .unset, .unset, .unset, .unset, .unset, .unset, .unset] [(.int 4)]))
    obtain ⟨T81, h81, k81, X81, e81, E81, A81, st81⟩ := newP X78 hx hZ (hw _ (List.mem_of_getElem? (i := 0) rfl)) e78 (g := (mkF m 79 #[iv p1, iv p2, iv p3, iv p4, iv p5, iv 1, iv vv, rv b74, .unset, .unset, .unset, .unset, .unset, .unset, .unset, .unset] [(.int 4)])) rfl (hb hby at_79) rfl (by decide) (cap := 4) (by decide) (by decide) (by decide) (by decide)
    obtain ⟨b81, g81⟩ : ∃ z, z = h78.size := ⟨_, rfl⟩
    rw [← g81] at A81 st81
    have sz_b81 : h0.size ≤ b81 := Nat.le_trans K78.1 (Nat.le_of_eq g81.symm)
    have g_b81 : n0 ≤ b81 := Nat.le_trans Z0 sz_b81
    have ne_b74_b81 : b74 ≠ b81 := Nat.ne_of_lt (Nat.lt_of_lt_of_le V_80.lt (Nat.le_of_eq g81.symm))
    have O_82 := O_79.ext E81
    have V_83 := V_80.ext E81
    have K81 := K78.ext E81
    have V_84 : Arv Z h81 b81 k81 .int (4 : Int32) [(.int 0), (.int 0), (.int 0), (.int 0)] (.int 0) := (Arv.new A81 (by decide)).pad (pad_rep [] (.int 0) 4)
    refine Goes.on (fun t k => st81 t k) ?_
    show Goes p e below QQ (T81.setTop (mkF m 81 #[iv p1, iv p2, iv p3, iv p4, iv p5, iv 1, iv vv, rv b74, .unset, .unset, .unset, .unset, .unset, .unset, .unset, .unset] [(.ref b81)]))
    refine Goes.on (fun t k => XS.dup X81.here hx rfl (hb hby at_81) rfl rfl k) ?_
    show Goes p e below QQ (T81.setTop (mkF m 82 #[iv p1, iv p2, iv p3, iv p4, iv p5, iv 1, iv vv, rv b74, .unset, .unset, .unset, .unset, .unset, .unset, .unset, .unset] [(.ref b81), (.ref b81)]))
    refine Goes.on (fun t k => XS.iconst X81.here hx rfl (hb hby at_82) k) ?_
    show Goes p e below QQ (T81.setTop (mkF m 83 #[iv p1, iv p2, iv p3, iv p4, iv p5, iv 1, iv vv, rv b74, .unset, .unset, .unset, .unset, .unset, .unset, .unset, .unset] [(.int 0), (.ref b81), (.ref b81)]))
    refine Goes.on (fun t k => XS.iloadN X81.here hx rfl (hb hby at_83) rfl k) ?_
    show Goes p e below QQ (T81.setTop (mkF m 84 #[iv p1, iv p2, iv p3, iv p4, iv p5, iv 1, iv vv, rv b74, .unset, .unset, .unset, .unset, .unset, .unset, .unset, .unset] [(.int p4), (.int 0), (.ref b81), (.ref b81)]))
    obtain ⟨cl85, Ar85, aq85, aS85, aN85, aH85, aG85⟩ := id V_84
    have hin85 := inb_of (j := (0 : Int32)) aS85 ⟨by decide, by decide⟩
    obtain ⟨T86, h86, X86, e86, W86, st86⟩ := stI X81 hx hZ e81 Ar85 (j := (0 : Int32)) hin85 (g := (mkF m 84 #[iv p1, iv p2, iv p3, iv p4, iv p5, iv 1, iv vv, rv b74, .unset, .unset, .unset, .unset, .unset, .unset, .unset, .unset] [(.int p4), (.int 0), (.ref b81), (.ref b81)])) rfl rfl (hb hby at_84)
    have O_87 := O_82.wr W86 g_b81
    have V_88 := V_83.other W86 ne_b74_b81
    have K86 := K81.wr W86 (Or.inr sz_b81)
    have N86 := Fr.snoc X86 N78 g_b81
    have V_89 : Arv Z h86 b81 k81 .int (4 : Int32) [(.int p4), (.int 0), (.int 0), (.int 0)] (.int 0) := Arv.set Ar85 aq85 aS85 aN85 aH85 aG85 rfl W86 0 rfl (Nat.le_of_ble_eq_true rfl)
    refine Goes.on (fun t k => st86 t k) ?_
    show Goes p e below QQ (T86.setTop (mkF m 85 #[iv p1, iv p2, iv p3, iv p4, iv p5, iv 1, iv vv, rv b74, .unset, .unset, .unset, .unset, .unset, .unset, .unset, .unset] [(.ref b81)]))
    refine Goes.on (fun t k => XS.dup X86.here hx rfl (hb hby at_85) rfl rfl k) ?_
    show Goes p e below QQ (T86.setTop (mkF m 86 #[iv p1, iv p2, iv p3, iv p4, iv p5, iv 1, iv vv, rv b74, .unset, .unset, .unset, .unset, .unset, .unset, .unset, .unset] [(.ref b81), (.ref b81)]))
    refine Goes.on (fun t k => XS.iconst X86.here hx rfl (hb hby at_86) k) ?_
    show Goes p e below QQ (T86.setTop (mkF m 87 #[iv p1, iv p2, iv p3, iv p4, iv p5, iv 1, iv vv, rv b74, .unset, .unset, .unset, .unset, .unset, .unset, .unset, .unset] [(.int 1), (.ref b81), (.ref b81)]))
    refine Goes.on (fun t k => XS.iloadN X86.here hx rfl (hb hby at_87) rfl k) ?_
    show Goes p e below QQ (T86.setTop (mkF m 88 #[iv p1, iv p2, iv p3, iv p4, iv p5, iv 1, iv vv, rv b74, .unset, .unset, .unset, .unset, .unset, .unset, .unset, .unset] [(.int p4), (.int 1), (.ref b81), (.ref b81)]))
    refine Goes.on (fun t k => XS.iconst X86.here hx rfl (hb hby at_88) k) ?_
    show Goes p e below QQ (T86.setTop (mkF m 89 #[iv p1, iv p2, iv p3, iv p4, iv p5, iv 1, iv vv, rv b74, .unset, .unset, .unset, .unset, .unset, .unset, .unset, .unset] [(.int 1), (.int p4), (.int 1), (.ref b81), (.ref b81)]))
    refine Goes.on (fun t k => XS.iadd X86.here hx rfl (hb hby at_89) rfl k) ?_
    show Goes p e below QQ (T86.setTop (mkF m 90 #[iv p1, iv p2, iv p3, iv p4, iv p5, iv 1, iv vv, rv b74, .unset, .unset, .unset, .unset, .unset, .unset, .unset, .unset] [(.int (p4 + (1 : Int32))), (.int 1), (.ref b81), (.ref b81)]))
    obtain ⟨cl90, Ar90, aq90, aS90, aN90, aH90, aG90⟩ := id V_89
    have hin90 := inb_of (j := (1 : Int32)) aS90 ⟨by decide, by decide⟩
    obtain ⟨T91, h91, X91, e91, W91, st91⟩ := stI X86 hx hZ e86 Ar90 (j := (1 : Int32)) hin90 (g := (mkF m 90 #[iv p1, iv p2, iv p3, iv p4, iv p5, iv 1, iv vv, rv b74, .unset, .unset, .unset, .unset, .unset, .unset, .unset, .unset] [(.int (p4 + (1 : Int32))), (.int 1), (.ref b81), (.ref b81)])) rfl rfl (hb hby at_90)
    have O_92 := O_87.wr W91 g_b81
    have V_93 := V_88.other W91 ne_b74_b81
    have K91 := K86.wr W91 (Or.inr sz_b81)
    have N91 := Fr.snoc X91 N86 g_b81
    have V_94 : Arv Z h91 b81 k81 .int (4 : Int32) [(.int p4), (.int (p4 + (1 : Int32))), (.int 0), (.int 0)] (.int 0) := Arv.set Ar90 aq90 aS90 aN90 aH90 aG90 rfl W91 1 rfl (Nat.le_of_ble_eq_true rfl)
    refine Goes.on (fun t k => st91 t k) ?_
    show Goes p e below QQ (T91.setTop (mkF m 91 #[iv p1, iv p2, iv p3, iv p4, iv p5, iv 1, iv vv, rv b74, .unset, .unset, .unset, .unset, .unset, .unset, .unset, .unset] [(.ref b81)]))
    refine Goes.on (fun t k => XS.dup X91.here hx rfl (hb hby at_91) rfl rfl k) ?_
    show Goes p e below QQ (T91.setTop (mkF m 92 #[iv p1, iv p2, iv p3, iv p4, iv p5, iv 1, iv vv, rv b74, .unset, .unset, .unset, .unset, .unset, .unset, .unset, .unset] [(.ref b81), (.ref b81)]))
    refine Goes.on (fun t k => XS.iconst X91.here hx rfl (hb hby at_92) k) ?_
    show Goes p e below QQ (T91.setTop (mkF m 93 #[iv p1, iv p2, iv p3, iv p4, iv p5, iv 1, iv vv, rv b74, .unset, .unset, .unset, .unset, .unset, .unset, .unset, .unset] [(.int 2), (.ref b81), (.ref b81)]))
    refine Goes.on (fun t k => XS.iloadN X91.here hx rfl (hb hby at_93) rfl k) ?_
    show Goes p e below QQ (T91.setTop (mkF m 94 #[iv p1, iv p2, iv p3, iv p4, iv p5, iv 1, iv vv, rv b74, .unset, .unset, .unset, .unset, .unset, .unset, .unset, .unset] [(.int p4), (.int 2), (.ref b81), (.ref b81)]))
    refine Goes.on (fun t k => XS.iconst X91.here hx rfl (hb hby at_94) k) ?_
    show Goes p e below QQ (T91.setTop (mkF m 95 #[iv p1, iv p2, iv p3, iv p4, iv p5, iv 1, iv vv, rv b74, .unset, .unset, .unset, .unset, .unset, .unset, .unset, .unset] [(.int 2), (.int p4), (.int 2), (.ref b81), (.ref b81)]))
    refine Goes.on (fun t k => XS.iadd X91.here hx rfl (hb hby at_95) rfl k) ?_
    show Goes p e below QQ (T91.setTop (mkF m 96 #[iv p1, iv p2, iv p3, iv p4, iv p5, iv 1, iv vv, rv b74, .unset, .unset, .unset, .unset, .unset, .unset, .unset, .unset] [(.int (p4 + (2 : Int32))), (.int 2), (.ref b81), (.ref b81)]))
    obtain ⟨cl95, Ar95, aq95, aS95, aN95, aH95, aG95⟩ := id V_94
    have hin95 := inb_of (j := (2 : Int32)) aS95 ⟨by decide, by decide⟩
    obtain ⟨T96, h96, X96, e96, W96, st96⟩ := stI X91 hx hZ e91 Ar95 (j := (2 : Int32)) hin95 (g := (mkF m 96 #[iv p1, iv p2, iv p3, iv p4, iv p5, iv 1, iv vv, rv b74, .unset, .unset, .unset, .unset, .unset, .unset, .unset, .unset] [(.int (p4 + (2 : Int32))), (.int 2), (.ref b81), (.ref b81)])) rfl rfl (hb hby at_96)
    have O_97 := O_92.wr W96 g_b81
    have V_98 := V_93.other W96 ne_b74_b81
    have K96 := K91.wr W96 (Or.inr sz_b81)
    have N96 := Fr.snoc X96 N91 g_b81
    have V_99 : Arv Z h96 b81 k81 .int (4 : Int32) [(.int p4), (.int (p4 + (1 : Int32))), (.int (p4 + (2 : Int32))), (.int 0)] (.int 0) := Arv.set Ar95 aq95 aS95 aN95 aH95 aG95 rfl W96 2 rfl (Nat.le_of_ble_eq_true rfl)
    refine Goes.on (fun t k => st96 t k) ?_
    show Goes p e below QQ (T96.setTop (mkF m 97 #[iv p1, iv p2, iv p3, iv p4, iv p5, iv 1, iv vv, rv b74, .unset, .unset, .unset, .unset, .unset, .unset, .unset, .unset] [(.ref b81)]))
    refine Goes.on (fun t k => XS.dup X96.here hx rfl (hb hby at_97) rfl rfl k) ?_
    show Goes p e below QQ (T96.setTop (mkF m 98 #[iv p1, iv p2, iv p3, iv p4, iv p5, iv 1, iv vv, rv b74, .unset, .unset, .unset, .unset, .unset, .unset, .unset, .unset] [(.ref b81), (.ref b81)]))
    refine Goes.on (fun t k => XS.iconst X96.here hx rfl (hb hby at_98) k) ?_
    show Goes p e below QQ (T96.setTop (mkF m 99 #[iv p1, iv p2, iv p3, iv p4, iv p5, iv 1, iv vv, rv b74, .unset, .unset, .unset, .unset, .unset, .unset, .unset, .unset] [(.int 3), (.ref b81), (.ref b81)]))
    refine Goes.on (fun t k => XS.iloadN X96.here hx rfl (hb hby at_99) rfl k) ?_
    show Goes p e below QQ (T96.setTop (mkF m 100 #[iv p1, iv p2, iv p3, iv p4, iv p5, iv 1, iv vv, rv b74, .unset, .unset, .unset, .unset, .unset, .unset, .unset, .unset] [(.int p4), (.int 3), (.ref b81), (.ref b81)]))
    refine Goes.on (fun t k => XS.iconst X96.here hx rfl (hb hby at_100) k) ?_
    show Goes p e below QQ (T96.setTop (mkF m 101 #[iv p1, iv p2, iv p3, iv p4, iv p5, iv 1, iv vv, rv b74, .unset, .unset, .unset, .unset, .unset, .unset, .unset, .unset] [(.int 3), (.int p4), (.int 3), (.ref b81), (.ref b81)]))
    refine Goes.on (fun t k => XS.iadd X96.here hx rfl (hb hby at_101) rfl k) ?_
    show Goes p e below QQ (T96.setTop (mkF m 102 #[iv p1, iv p2, iv p3, iv p4, iv p5, iv 1, iv vv, rv b74, .unset, .unset, .unset, .unset, .unset, .unset, .unset, .unset] [(.int (p4 + (3 : Int32))), (.int 3), (.ref b81), (.ref b81)]))
    obtain ⟨cl100, Ar100, aq100, aS100, aN100, aH100, aG100⟩ := id V_99
    have hin100 := inb_of (j := (3 : Int32)) aS100 ⟨by decide, by decide⟩
    obtain ⟨T101, h101, X101, e101, W101, st101⟩ := stI X96 hx hZ e96 Ar100 (j := (3 : Int32)) hin100 (g := (mkF m 102 #[iv p1, iv p2, iv p3, iv p4, iv p5, iv 1, iv vv, rv b74, .unset, .unset, .unset, .unset, .unset, .unset, .unset, .unset] [(.int (p4 + (3 : Int32))), (.int 3), (.ref b81), (.ref b81)])) rfl rfl (hb hby at_102)
    have O_102 := O_97.wr W101 g_b81
    have V_103 := V_98.other W101 ne_b74_b81
    have K101 := K96.wr W101 (Or.inr sz_b81)
    have N101 := Fr.snoc X101 N96 g_b81
    have V_104 : Arv Z h101 b81 k81 .int (4 : Int32) [(.int p4), (.int (p4 + (1 : Int32))), (.int (p4 + (2 : Int32))), (.int (p4 + (3 : Int32)))] (.int 0) := Arv.set Ar100 aq100 aS100 aN100 aH100 aG100 rfl W101 3 rfl (Nat.le_of_ble_eq_true rfl)
    refine Goes.on (fun t k => st101 t k) ?_
    show Goes p e below QQ (T101.setTop (mkF m 103 #[iv p1, iv p2, iv p3, iv p4, iv p5, iv 1, iv vv, rv b74, .unset, .unset, .unset, .unset, .unset, .unset, .unset, .unset] [(.ref b81)]))
    refine Goes.on (fun t k => XS.astore X101.here hx rfl (hb hby at_103) rfl rfl (l' := #[iv p1, iv p2, iv p3, iv p4, iv p5, iv 1, iv vv, rv b74, rv b81, .unset, .unset, .unset, .unset, .unset, .unset, .unset]) rfl k) ?_
    show Goes p e below QQ (T101.setTop (mkF m 105 #[iv p1, iv p2, iv p3, iv p4, iv p5, iv 1, iv vv, rv b74, rv b81, .unset, .unset, .unset, .unset, .unset, .unset, .unset] []))
    obtain ⟨rs0, hrs0⟩ : ∃ z : List Value, z = [(.int p4), (.int (p4 + (1 : Int32))), (.int (p4 + (2 : Int32))), (.int (p4 + (3 : Int32)))] := ⟨_, rfl⟩
    have V_105 := V_104
    rw [← hrs0] at V_105
    show Goes p e below QQ (T101.setTop (mkF m 105 #[iv p1, iv p2, iv p3, iv p4, iv p5, iv 1, iv vv, rv b74, rv b81, .unset, .unset, .unset, .unset, .unset, .unset, .unset] []))
    obtain ⟨T106, h106, X106, e106, E106, A106, D106, -, st106⟩ := newO X101 hx hZ hown (hw _ (List.mem_of_getElem? (i := 1) rfl)) (hw _ (List.mem_of_getElem? (i := 2) rfl)) (hw _ (List.mem_of_getElem? (i := 3) rfl)) e101 (g := (mkF m 105 #[iv p1, iv p2, iv p3, iv p4, iv p5, iv 1, iv vv, rv b74, rv b81, .unset, .unset, .unset, .unset, .unset, .unset, .unset] [])) rfl (hb hby at_105) (by decide) (by decide)
    obtain ⟨b106, g106⟩ : ∃ z, z = h101.size := ⟨_, rfl⟩
    rw [← g106] at A106 D106 st106
    have sz_b106 : h0.size ≤ b106 := Nat.le_trans K101.1 (Nat.le_of_eq g106.symm)
    have g_b106 : n0 ≤ b106 := Nat.le_trans Z0 sz_b106
    have ne_b74_b106 : b74 ≠ b106 := Nat.ne_of_lt (Nat.lt_of_lt_of_le V_103.lt (Nat.le_of_eq g106.symm))
    have ne_b81_b106 : b81 ≠ b106 := Nat.ne_of_lt (Nat.lt_of_lt_of_le V_105.lt (Nat.le_of_eq g106.symm))
    have O_107 := O_102.ext E106
    have V_108 := V_103.ext E106
    have V_109 := V_105.ext E106
    have K106 := K101.ext E106
    have F_110 : Fld Z h106 b106 "com/example/clew/clew/algebra/Step" "tests" "Ljava/util/List;" .null := D106 (Or.inr (hw _ (List.mem_of_getElem? (i := 40) rfl))) (ty := (.object "java/util/List")) (by decide)
    have F_111 : Fld Z h106 b106 "com/example/clew/clew/algebra/Step" "variables" "[I" .null := D106 (Or.inr (hw _ (List.mem_of_getElem? (i := 42) rfl))) (ty := (.array .int)) (by decide)
    have F_112 : Fld Z h106 b106 "com/example/clew/clew/algebra/Step$Members" "members" "[I" .null := D106 (Or.inr (hw _ (List.mem_of_getElem? (i := 44) rfl))) (ty := (.array .int)) (by decide)
    have F_113 : Fld Z h106 b106 "com/example/clew/clew/algebra/Step$Members" "variable" "I" (.int 0) := D106 (Or.inr (hw _ (List.mem_of_getElem? (i := 46) rfl))) (ty := .int) (by decide)
    have F_114 : Fld Z h106 b106 "com/example/clew/clew/algebra/Step$Members" "next" "I" (.int 0) := D106 (Or.inl (hw _ (List.mem_of_getElem? (i := 53) rfl))) (ty := .int) (by decide)
    have F_115 : Fld Z h106 b106 "com/example/clew/clew/algebra/Step$Members" "end" "I" (.int 0) := D106 (Or.inl (hw _ (List.mem_of_getElem? (i := 55) rfl))) (ty := .int) (by decide)
    have F_116 : Fld Z h106 b106 "com/example/clew/clew/algebra/Step$Members" "bound" "Z" (.int 0) := D106 (Or.inl (hw _ (List.mem_of_getElem? (i := 57) rfl))) (ty := .boolean) (by decide)
    refine Goes.on (fun t k => st106 t k) ?_
    show Goes p e below QQ (T106.setTop (mkF m 108 #[iv p1, iv p2, iv p3, iv p4, iv p5, iv 1, iv vv, rv b74, rv b81, .unset, .unset, .unset, .unset, .unset, .unset, .unset] [(.ref b106)]))
    refine Goes.on (fun t k => XS.dup X106.here hx rfl (hb hby at_108) rfl rfl k) ?_
    show Goes p e below QQ (T106.setTop (mkF m 109 #[iv p1, iv p2, iv p3, iv p4, iv p5, iv 1, iv vv, rv b74, rv b81, .unset, .unset, .unset, .unset, .unset, .unset, .unset] [(.ref b106), (.ref b106)]))
    refine Goes.on (fun t k => XS.aload X106.here hx rfl (hb hby at_109) rfl rfl k) ?_
    show Goes p e below QQ (T106.setTop (mkF m 111 #[iv p1, iv p2, iv p3, iv p4, iv p5, iv 1, iv vv, rv b74, rv b81, .unset, .unset, .unset, .unset, .unset, .unset, .unset] [(.ref b74), (.ref b106), (.ref b106)]))
    refine Goes.on (fun t k => XS.iload X106.here hx rfl (hb hby at_111) rfl k) ?_
    show Goes p e below QQ (T106.setTop (mkF m 113 #[iv p1, iv p2, iv p3, iv p4, iv p5, iv 1, iv vv, rv b74, rv b81, .unset, .unset, .unset, .unset, .unset, .unset, .unset] [(.int vv), (.ref b74), (.ref b106), (.ref b106)]))
    obtain ⟨_, _, ⟨T117, L117, k117, n117⟩, -, X117, ⟨Lc117, hQ117, l117, y117, z117⟩, st117⟩ := X106.specialBack hx (y := (⟨"com/example/clew/clew/algebra/Step$Members", "<init>", "([II)V"⟩ : MethodName)) rfl hown (mvT hZ (hw _ (List.mem_of_getElem? (i := 4) rfl))) (mvT hZ (hw _ (List.mem_of_getElem? (i := 5) rfl))) (mvT hZ (hw _ (List.mem_of_getElem? (i := 6) rfl))) (by decide) (backOf (W := 1) (rmMe l Z a0 hw [] b106 b74 vv xD h106 n0 (Nat.le_trans Z0 K106.1) A106 F_110 F_111 F_112 F_113 F_114 F_115 F_116 g_b106 S_DEFAULTCAPACITY_EMPTY_ELEMENTDATA O_107) hZ (hw _ (List.mem_of_getElem? (i := 6) rfl)) (hw _ (List.mem_of_getElem? (i := 3) rfl)) (by decide) (by decide)) (g := (mkF m 113 #[iv p1, iv p2, iv p3, iv p4, iv p5, iv 1, iv vv, rv b74, rv b81, .unset, .unset, .unset, .unset, .unset, .unset, .unset] [(.int vv), (.ref b74), (.ref b106), (.ref b106)])) rfl (by rw [hml]; rfl) (Steps.refl _) (a := b106) (argsL := [(.ref b74), (.int vv)]) (rest := [(.ref b106)]) (lenOf pd_4 rfl) rfl (by show 2 * 0 + _ ≤ _; exact Nat.le_of_eq rfl) (hb hby at_113) (fun _ _ => ⟨rfl, e106, (by decide : 3 + 2 ≤ _), (by decide : 12 + 4 ≤ _)⟩)
    dsimp only [Pt.U, Pt.locs, Pt.cells, Pt.slots] at X117 l117 y117 z117 st117 hQ117
    subst l117 y117 z117
    obtain ⟨rfl, M117, Kb1, ⟨members_m, variable_m, next_m, end_m, bound_m⟩⟩ := hQ117
    have N117 := Fr.app N101 M117
    refine Goes.on (fun t k => st117.trans k) ?_
    have O_118 := O_107.keep Kb1 (allS g_b106 all0)
    have V_119 := V_108.keep Kb1 (ninS ne_b74_b106 nin0)
    have V_120 := V_109.keep Kb1 (ninS ne_b81_b106 nin0)
    have A106_121 := A106.keep Kb1
    have K129 := K106.trans Kb1 (allS (Or.inr sz_b106) all0)
    show Goes p e below QQ (T117.setTop (mkF m 116 #[iv p1, iv p2, iv p3, iv p4, iv p5, iv 1, iv vv, rv b74, rv b81, .unset, .unset, .unset, .unset, .unset, .unset, .unset] [(.ref b106)]))
    refine Goes.on (fun t k => XS.astore X117.here hx rfl (hb hby at_116) rfl rfl (l' := #[iv p1, iv p2, iv p3, iv p4, iv p5, iv 1, iv vv, rv b74, rv b81, rv b106, .unset, .unset, .unset, .unset, .unset, .unset]) rfl k) ?_
    show Goes p e below QQ (T117.setTop (mkF m 118 #[iv p1, iv p2, iv p3, iv p4, iv p5, iv 1, iv vv, rv b74, rv b81, rv b106, .unset, .unset, .unset, .unset, .unset, .unset] []))
    refine Goes.on (fun t k => XS.aload X117.here hx rfl (hb hby at_118) rfl rfl k) ?_
    show Goes p e below QQ (T117.setTop (mkF m 120 #[iv p1, iv p2, iv p3, iv p4, iv p5, iv 1, iv vv, rv b74, rv b81, rv b106, .unset, .unset, .unset, .unset, .unset, .unset] [(.ref b106)]))
    refine Goes.on (fun t k => XS.aload X117.here hx rfl (hb hby at_120) rfl rfl k) ?_
    show Goes p e below QQ (T117.setTop (mkF m 122 #[iv p1, iv p2, iv p3, iv p4, iv p5, iv 1, iv vv, rv b74, rv b81, rv b106, .unset, .unset, .unset, .unset, .unset, .unset] [(.ref b81), (.ref b106)]))
    obtain ⟨cq130, kq130, q130a, q130b, q130c⟩ := isOf hZ rfl A106_121
    obtain ⟨_, _, ⟨T130, L130, k130, n130⟩, -, X130, ⟨Lc130, hQ130, l130, y130, z130⟩, st130⟩ := X117.virtualBack hx (y := (⟨"com/example/clew/clew/algebra/Step$Members", "start", "([I)V"⟩ : MethodName)) (z := (⟨"com/example/clew/clew/algebra/Step$Members", "start", "([I)V"⟩ : MethodName)) hown (mvT hZ (hw _ (List.mem_of_getElem? (i := 47) rfl))) (mvT hZ (hw _ (List.mem_of_getElem? (i := 48) rfl))) (notFace_of_selects (args := #[]) (mvT hZ (hw _ (List.mem_of_getElem? (i := 50) rfl)))) (mvT hZ (hw _ (List.mem_of_getElem? (i := 50) rfl))) (mvT hZ (hw _ (List.mem_of_getElem? (i := 49) rfl))) (by decide) (backOf (W := 0) (rmSa l Z a0 hw [] b106 b81 b74 vv k74 (1 : Int32) [(.int p1)] T117.heap n0 (Nat.le_trans Z0 K129.1) A106_121 members_m variable_m next_m end_m bound_m V_119 g_b106 ne_b74_b106) hZ (hw _ (List.mem_of_getElem? (i := 51) rfl)) (hw _ (List.mem_of_getElem? (i := 3) rfl)) (by decide) (by decide)) q130a q130c (g := (mkF m 122 #[iv p1, iv p2, iv p3, iv p4, iv p5, iv 1, iv vv, rv b74, rv b81, rv b106, .unset, .unset, .unset, .unset, .unset, .unset] [(.ref b81), (.ref b106)])) rfl (by rw [hml]; rfl) (Steps.refl _) (argsL := [(.ref b81)]) (rest := []) (lenOf pd_1 rfl) rfl (by show 2 * 0 + _ ≤ _; exact Nat.le_of_eq rfl) (hb hby at_122) (fun _ _ => ⟨rfl, rfl, (by decide : 5 + 0 ≤ _), (by decide : 16 + 0 ≤ _)⟩)
    dsimp only [Pt.U, Pt.locs, Pt.cells, Pt.slots] at X130 l130 y130 z130 st130 hQ130
    subst l130 y130 z130
    obtain ⟨rfl, M130, Kb2, ⟨members_t, variable_t, next_t, end_t, bound_t⟩⟩ := hQ130
    have N130 := Fr.app N117 M130
    refine Goes.on (fun t k => st130.trans k) ?_
    have O_131 := O_118.keep Kb2 (allS g_b106 all0)
    have V_132 := V_119.keep Kb2 (ninS ne_b74_b106 nin0)
    have V_133 := V_120.keep Kb2 (ninS ne_b81_b106 nin0)
    have A106_134 := A106_121.keep Kb2
    have K140 := K129.trans Kb2 (allS (Or.inr sz_b106) all0)
    show Goes p e below QQ (T130.setTop (mkF m 125 #[iv p1, iv p2, iv p3, iv p4, iv p5, iv 1, iv vv, rv b74, rv b81, rv b106, .unset, .unset, .unset, .unset, .unset, .unset] []))
    refine Goes.on (fun t k => XS.iconst X130.here hx rfl (hb hby at_125) k) ?_
    show Goes p e below QQ (T130.setTop (mkF m 126 #[iv p1, iv p2, iv p3, iv p4, iv p5, iv 1, iv vv, rv b74, rv b81, rv b106, .unset, .unset, .unset, .unset, .unset, .unset] [(.int 1)]))
    refine Goes.on (fun t k => XS.istore X130.here hx rfl (hb hby at_126) rfl (l' := #[iv p1, iv p2, iv p3, iv p4, iv p5, iv 1, iv vv, rv b74, rv b81, rv b106, iv 1, .unset, .unset, .unset, .unset, .unset]) rfl k) ?_
    show Goes p e below QQ (T130.setTop (mkF m 128 #[iv p1, iv p2, iv p3, iv p4, iv p5, iv 1, iv vv, rv b74, rv b81, rv b106, iv 1, .unset, .unset, .unset, .unset, .unset] []))
    refine Goes.on (fun t k => XS.aload X130.here hx rfl (hb hby at_128) rfl rfl k) ?_
    show Goes p e below QQ (T130.setTop (mkF m 130 #[iv p1, iv p2, iv p3, iv p4, iv p5, iv 1, iv vv, rv b74, rv b81, rv b106, iv 1, .unset, .unset, .unset, .unset, .unset] [(.ref b106)]))
    refine Goes.on (fun t k => XS.aload X130.here hx rfl (hb hby at_130) rfl rfl k) ?_
    show Goes p e below QQ (T130.setTop (mkF m 132 #[iv p1, iv p2, iv p3, iv p4, iv p5, iv 1, iv vv, rv b74, rv b81, rv b106, iv 1, .unset, .unset, .unset, .unset, .unset] [(.ref b81), (.ref b106)]))
    obtain ⟨cq141, kq141, q141a, q141b, q141c⟩ := isOf hZ rfl A106_134
    obtain ⟨_, _, ⟨T141, L141, k141, n141⟩, -, X141, ⟨Lc141, hQ141, l141, y141, z141⟩, st141⟩ := X130.virtualBack hx (y := (⟨"com/example/clew/clew/algebra/Step$Members", "advance", "([I)Z"⟩ : MethodName)) (z := (⟨"com/example/clew/clew/algebra/Step$Members", "advance", "([I)Z"⟩ : MethodName)) hown (mvT hZ (hw _ (List.mem_of_getElem? (i := 58) rfl))) (mvT hZ (hw _ (List.mem_of_getElem? (i := 59) rfl))) (notFace_of_selects (args := #[]) (mvT hZ (hw _ (List.mem_of_getElem? (i := 61) rfl)))) (mvT hZ (hw _ (List.mem_of_getElem? (i := 61) rfl))) (mvT hZ (hw _ (List.mem_of_getElem? (i := 60) rfl))) (by decide) (backOf (W := 0) (rmYe l Z a0 hw [] b106 b81 b74 (0 : Int32) (1 : Int32) vv k74 (1 : Int32) [(.int p1)] k81 rs0 p1 T130.heap n0 (Nat.le_trans Z0 K140.1) A106_134 members_t variable_t next_t end_t bound_t V_132 V_133 g_b106 g_b81 ne_b74_b106 ne_b74_b81 (Ne.symm ne_b81_b106) (by decide) ⟨by decide, by decide⟩ rfl (by rcases hv4 with rfl | rfl | rfl | rfl <;> exact ⟨by decide, by decide⟩) (by subst hrs0; rcases hv4 with rfl | rfl | rfl | rfl <;> exact Nat.le_of_ble_eq_true rfl)) hZ (hw _ (List.mem_of_getElem? (i := 62) rfl)) (hw _ (List.mem_of_getElem? (i := 3) rfl)) (by decide) (by decide)) q141a q141c (g := (mkF m 132 #[iv p1, iv p2, iv p3, iv p4, iv p5, iv 1, iv vv, rv b74, rv b81, rv b106, iv 1, .unset, .unset, .unset, .unset, .unset] [(.ref b81), (.ref b106)])) rfl (by rw [hml]; rfl) (Steps.refl _) (argsL := [(.ref b81)]) (rest := []) (lenOf pd_5 rfl) rfl (by show 2 * 0 + _ ≤ _; exact Nat.le_of_eq rfl) (hb hby at_132) (fun _ _ => ⟨rfl, rfl, (by decide : 5 + 0 ≤ _), (by decide : 16 + 0 ≤ _)⟩)
    dsimp only [Pt.U, Pt.locs, Pt.cells, Pt.slots] at X141 l141 y141 z141 st141 hQ141
    subst l141 y141 z141
    obtain ⟨rfl, M141, Kcy0, ⟨members_y0, variable_y0, next_y0, end_y0, bound_y0⟩, Vry0⟩ := hQ141
    have N141 := Fr.app N130 M141
    refine Goes.on (fun t k => st141.trans k) ?_
    have O_142 := O_131.keep Kcy0 (allS g_b106 (allS g_b81 all0))
    have V_143 := V_132.keep Kcy0 (ninS ne_b74_b106 (ninS ne_b74_b81 nin0))
    have A106_145 := A106_134.keep Kcy0
    have K151 := K140.trans Kcy0 (allS (Or.inr sz_b106) (allS (Or.inr sz_b81) all0))
    show Goes p e below QQ (T141.setTop (mkF m 135 #[iv p1, iv p2, iv p3, iv p4, iv p5, iv 1, iv vv, rv b74, rv b81, rv b106, iv 1, .unset, .unset, .unset, .unset, .unset] [(.int 1)]))
    rw [(by decide : ((0 : Int32) + (1 : Int32)) = (1 : Int32))] at next_y0
    show Goes p e below QQ (T141.setTop (mkF m 135 #[iv p1, iv p2, iv p3, iv p4, iv p5, iv 1, iv vv, rv b74, rv b81, rv b106, iv 1, .unset, .unset, .unset, .unset, .unset] [(.int 1)]))
    refine Goes.on (fun t k => XS.istore X141.here hx rfl (hb hby at_135) rfl (l' := #[iv p1, iv p2, iv p3, iv p4, iv p5, iv 1, iv vv, rv b74, rv b81, rv b106, iv 1, iv 1, .unset, .unset, .unset, .unset]) rfl k) ?_
    show Goes p e below QQ (T141.setTop (mkF m 137 #[iv p1, iv p2, iv p3, iv p4, iv p5, iv 1, iv vv, rv b74, rv b81, rv b106, iv 1, iv 1, .unset, .unset, .unset, .unset] []))
    refine Goes.on (fun t k => XS.iload X141.here hx rfl (hb hby at_137) rfl k) ?_
    show Goes p e below QQ (T141.setTop (mkF m 139 #[iv p1, iv p2, iv p3, iv p4, iv p5, iv 1, iv vv, rv b74, rv b81, rv b106, iv 1, iv 1, .unset, .unset, .unset, .unset] [(.int 1)]))
    refine Goes.on (fun t k => XS.ifNo X141.here hx rfl (hb hby at_139) rfl ((if0 _ _).trans (feq (by decide)).1) k) ?_
    show Goes p e below QQ (T141.setTop (mkF m 142 #[iv p1, iv p2, iv p3, iv p4, iv p5, iv 1, iv vv, rv b74, rv b81, rv b106, iv 1, iv 1, .unset, .unset, .unset, .unset] []))
    refine Goes.on (fun t k => XS.iload X141.here hx rfl (hb hby at_142) rfl k) ?_
    show Goes p e below QQ (T141.setTop (mkF m 144 #[iv p1, iv p2, iv p3, iv p4, iv p5, iv 1, iv vv, rv b74, rv b81, rv b106, iv 1, iv 1, .unset, .unset, .unset, .unset] [(.int 1)]))
    refine Goes.on (fun t k => XS.aload X141.here hx rfl (hb hby at_144) rfl rfl k) ?_
    show Goes p e below QQ (T141.setTop (mkF m 146 #[iv p1, iv p2, iv p3, iv p4, iv p5, iv 1, iv vv, rv b74, rv b81, rv b106, iv 1, iv 1, .unset, .unset, .unset, .unset] [(.ref b81), (.int 1)]))
    refine Goes.on (fun t k => XS.iconst X141.here hx rfl (hb hby at_146) k) ?_
    show Goes p e below QQ (T141.setTop (mkF m 147 #[iv p1, iv p2, iv p3, iv p4, iv p5, iv 1, iv vv, rv b74, rv b81, rv b106, iv 1, iv 1, .unset, .unset, .unset, .unset] [(.int 0), (.ref b81), (.int 1)]))
    refine Goes.on (fun t k => XS.iload X141.here hx rfl (hb hby at_147) rfl k) ?_
    show Goes p e below QQ (T141.setTop (mkF m 149 #[iv p1, iv p2, iv p3, iv p4, iv p5, iv 1, iv vv, rv b74, rv b81, rv b106, iv 1, iv 1, .unset, .unset, .unset, .unset] [(.int 1), (.int 0), (.ref b81), (.int 1)]))
    refine Goes.on (fun t k => XS.iload X141.here hx rfl (hb hby at_149) rfl k) ?_
    show Goes p e below QQ (T141.setTop (mkF m 151 #[iv p1, iv p2, iv p3, iv p4, iv p5, iv 1, iv vv, rv b74, rv b81, rv b106, iv 1, iv 1, .unset, .unset, .unset, .unset] [(.int vv), (.int 1), (.int 0), (.ref b81), (.int 1)]))
    refine Goes.on (fun t k => XS.iloadN X141.here hx rfl (hb hby at_151) rfl k) ?_
    show Goes p e below QQ (T141.setTop (mkF m 152 #[iv p1, iv p2, iv p3, iv p4, iv p5, iv 1, iv vv, rv b74, rv b81, rv b106, iv 1, iv 1, .unset, .unset, .unset, .unset] [(.int p1), (.int vv), (.int 1), (.int 0), (.ref b81), (.int 1)]))
    refine Goes.on (fun t k => XS.iloadN X141.here hx rfl (hb hby at_152) rfl k) ?_
    show Goes p e below QQ (T141.setTop (mkF m 153 #[iv p1, iv p2, iv p3, iv p4, iv p5, iv 1, iv vv, rv b74, rv b81, rv b106, iv 1, iv 1, .unset, .unset, .unset, .unset] [(.int p2), (.int p1), (.int vv), (.int 1), (.int 0), (.ref b81), (.int 1)]))
    refine Goes.on (fun t k => XS.iloadN X141.here hx rfl (hb hby at_153) rfl k) ?_
    show Goes p e below QQ (T141.setTop (mkF m 154 #[iv p1, iv p2, iv p3, iv p4, iv p5, iv 1, iv vv, rv b74, rv b81, rv b106, iv 1, iv 1, .unset, .unset, .unset, .unset] [(.int p3), (.int p2), (.int p1), (.int vv), (.int 1), (.int 0), (.ref b81), (.int 1)]))
    refine Goes.on (fun t k => XS.iloadN X141.here hx rfl (hb hby at_154) rfl k) ?_
    show Goes p e below QQ (T141.setTop (mkF m 155 #[iv p1, iv p2, iv p3, iv p4, iv p5, iv 1, iv vv, rv b74, rv b81, rv b106, iv 1, iv 1, .unset, .unset, .unset, .unset] [(.int p4), (.int p3), (.int p2), (.int p1), (.int vv), (.int 1), (.int 0), (.ref b81), (.int 1)]))
    have Vq155 : Arv Z T141.heap b81 k81 .int (4 : Int32) ([(.int p4), (.int (p4 + (1 : Int32))), (.int (p4 + (2 : Int32))), (.int (p4 + (3 : Int32)))].set vv.toNatClampNeg (.int p1)) (.int (0 : Int32)) := (hrs0 ▸ Vry0)
    obtain ⟨_, _, ⟨T152, L152, k152, n152⟩, -, X152, ⟨Lc152, hQ152, l152, y152, z152⟩, st152⟩ := Jvm.LawKit.callS X141 hx (y := (⟨"com/example/clew/clew/algebra/MembersAdvancePinLaw", "stepOk", "(Z[IIIIIIII)Z"⟩ : MethodName)) hown (mvT hZ (hw _ (List.mem_of_getElem? (i := 63) rfl))) (mvT hZ (hw _ (List.mem_of_getElem? (i := 64) rfl))) (mvT hZ (hw _ (List.mem_of_getElem? (i := 65) rfl))) (mvT hZ (hw _ (List.mem_of_getElem? (i := 66) rfl))) (by decide) (backOf (W := 0) (rmSO l Z a0 hw [] (1 : Int32) b81 (0 : Int32) (1 : Int32) vv p1 p2 p3 p4 k81 p1 T141.heap n0 (Nat.le_trans Z0 K151.1) Vq155 hv4 (by decide) (by first | rfl | simp [expF])) hZ (hw _ (List.mem_of_getElem? (i := 66) rfl)) (hw _ (List.mem_of_getElem? (i := 65) rfl)) (by decide) (by decide)) (g := (mkF m 155 #[iv p1, iv p2, iv p3, iv p4, iv p5, iv 1, iv vv, rv b74, rv b81, rv b106, iv 1, iv 1, .unset, .unset, .unset, .unset] [(.int p4), (.int p3), (.int p2), (.int p1), (.int vv), (.int 1), (.int 0), (.ref b81), (.int 1)])) rfl (by rw [hml]; rfl) (argsL := [(.int 1), (.ref b81), (.int 0), (.int 1), (.int vv), (.int p1), (.int p2), (.int p3), (.int p4)]) (rest := []) (lenOf pd_6 rfl) rfl (by show 2 * 0 + _ ≤ _; exact Nat.le_of_eq rfl) (hb hby at_155) (fun _ _ => ⟨rfl, rfl, (by decide : 5 + 0 ≤ _), (by decide : 16 + 0 ≤ _)⟩)
    dsimp only [Pt.U, Pt.locs, Pt.cells, Pt.slots] at X152 l152 y152 z152 st152 hQ152
    subst l152 y152 z152
    obtain ⟨rfl, M152, e152⟩ := hQ152
    have N152 := Fr.app N141 M152
    refine Goes.on (fun t k => st152 _ k) ?_
    show Goes p e below QQ (T152.setTop (mkF m 158 #[iv p1, iv p2, iv p3, iv p4, iv p5, iv 1, iv vv, rv b74, rv b81, rv b106, iv 1, iv 1, .unset, .unset, .unset, .unset] [(.int 1)]))
    refine Goes.on (fun t k => XS.ifNo X152.here hx rfl (hb hby at_158) rfl ((if0 _ _).trans (feq (by decide)).1) k) ?_
    show Goes p e below QQ (T152.setTop (mkF m 161 #[iv p1, iv p2, iv p3, iv p4, iv p5, iv 1, iv vv, rv b74, rv b81, rv b106, iv 1, iv 1, .unset, .unset, .unset, .unset] []))
    refine Goes.on (fun t k => XS.iconst X152.here hx rfl (hb hby at_161) k) ?_
    show Goes p e below QQ (T152.setTop (mkF m 162 #[iv p1, iv p2, iv p3, iv p4, iv p5, iv 1, iv vv, rv b74, rv b81, rv b106, iv 1, iv 1, .unset, .unset, .unset, .unset] [(.int 1)]))
    refine Goes.on (fun t k => XS.goto X152.here hx rfl (pc0 := 162) (pc' := 166) rfl (hb hby at_162) (by decide) (by decide) k) ?_
    show Goes p e below QQ (T152.setTop (mkF m 166 #[iv p1, iv p2, iv p3, iv p4, iv p5, iv 1, iv vv, rv b74, rv b81, rv b106, iv 1, iv 1, .unset, .unset, .unset, .unset] [(.int 1)]))
    refine Goes.on (fun t k => XS.istore X152.here hx rfl (hb hby at_166) rfl (l' := #[iv p1, iv p2, iv p3, iv p4, iv p5, iv 1, iv vv, rv b74, rv b81, rv b106, iv 1, iv 1, .unset, .unset, .unset, .unset]) rfl k) ?_
    show Goes p e below QQ (T152.setTop (mkF m 168 #[iv p1, iv p2, iv p3, iv p4, iv p5, iv 1, iv vv, rv b74, rv b81, rv b106, iv 1, iv 1, .unset, .unset, .unset, .unset] []))
    refine Goes.on (fun t k => XS.aload X152.here hx rfl (hb hby at_168) rfl rfl k) ?_
    show Goes p e below QQ (T152.setTop (mkF m 170 #[iv p1, iv p2, iv p3, iv p4, iv p5, iv 1, iv vv, rv b74, rv b81, rv b106, iv 1, iv 1, .unset, .unset, .unset, .unset] [(.ref b106)]))
    refine Goes.on (fun t k => XS.aload X152.here hx rfl (hb hby at_170) rfl rfl k) ?_
    show Goes p e below QQ (T152.setTop (mkF m 172 #[iv p1, iv p2, iv p3, iv p4, iv p5, iv 1, iv vv, rv b74, rv b81, rv b106, iv 1, iv 1, .unset, .unset, .unset, .unset] [(.ref b81), (.ref b106)]))
    obtain ⟨cq153, kq153, q153a, q153b, q153c⟩ := isOf hZ e152 A106_145
    obtain ⟨_, _, ⟨T153, L153, k153, n153⟩, -, X153, ⟨Lc153, hQ153, l153, y153, z153⟩, st153⟩ := X152.virtualBack hx (y := (⟨"com/example/clew/clew/algebra/Step$Members", "advance", "([I)Z"⟩ : MethodName)) (z := (⟨"com/example/clew/clew/algebra/Step$Members", "advance", "([I)Z"⟩ : MethodName)) hown (mvT hZ (hw _ (List.mem_of_getElem? (i := 58) rfl))) (mvT hZ (hw _ (List.mem_of_getElem? (i := 59) rfl))) (notFace_of_selects (args := #[]) (mvT hZ (hw _ (List.mem_of_getElem? (i := 61) rfl)))) (mvT hZ (hw _ (List.mem_of_getElem? (i := 61) rfl))) (mvT hZ (hw _ (List.mem_of_getElem? (i := 60) rfl))) (by decide) (backOf (W := 0) (rmNo l Z a0 hw [] b106 b81 (1 : Int32) T141.heap n0 (Nat.le_trans Z0 K151.1) next_y0 end_y0) hZ (hw _ (List.mem_of_getElem? (i := 62) rfl)) (hw _ (List.mem_of_getElem? (i := 3) rfl)) (by decide) (by decide)) q153a q153c (g := (mkF m 172 #[iv p1, iv p2, iv p3, iv p4, iv p5, iv 1, iv vv, rv b74, rv b81, rv b106, iv 1, iv 1, .unset, .unset, .unset, .unset] [(.ref b81), (.ref b106)])) rfl (by rw [hml]; rfl) (Steps.refl _) (argsL := [(.ref b81)]) (rest := []) (lenOf pd_5 rfl) rfl (by show 2 * 0 + _ ≤ _; exact Nat.le_of_eq rfl) (hb hby at_172) (fun _ _ => ⟨rfl, e152, (by decide : 5 + 0 ≤ _), (by decide : 16 + 0 ≤ _)⟩)
    dsimp only [Pt.U, Pt.locs, Pt.cells, Pt.slots] at X153 l153 y153 z153 st153 hQ153
    subst l153 y153 z153
    obtain ⟨rfl, M153, e153⟩ := hQ153
    have N153 := Fr.app N152 M153
    refine Goes.on (fun t k => st153.trans k) ?_
    show Goes p e below QQ (T153.setTop (mkF m 175 #[iv p1, iv p2, iv p3, iv p4, iv p5, iv 1, iv vv, rv b74, rv b81, rv b106, iv 1, iv 1, .unset, .unset, .unset, .unset] [(.int 0)]))
    refine Goes.on (fun t k => XS.istore X153.here hx rfl (hb hby at_175) rfl (l' := #[iv p1, iv p2, iv p3, iv p4, iv p5, iv 1, iv vv, rv b74, rv b81, rv b106, iv 1, iv 1, iv 0, .unset, .unset, .unset]) rfl k) ?_
    show Goes p e below QQ (T153.setTop (mkF m 177 #[iv p1, iv p2, iv p3, iv p4, iv p5, iv 1, iv vv, rv b74, rv b81, rv b106, iv 1, iv 1, iv 0, .unset, .unset, .unset] []))
    refine Goes.on (fun t k => XS.iload X153.here hx rfl (hb hby at_177) rfl k) ?_
    show Goes p e below QQ (T153.setTop (mkF m 179 #[iv p1, iv p2, iv p3, iv p4, iv p5, iv 1, iv vv, rv b74, rv b81, rv b106, iv 1, iv 1, iv 0, .unset, .unset, .unset] [(.int 1)]))
    refine Goes.on (fun t k => XS.ifNo X153.here hx rfl (hb hby at_179) rfl ((if0 _ _).trans (feq (by decide)).1) k) ?_
    show Goes p e below QQ (T153.setTop (mkF m 182 #[iv p1, iv p2, iv p3, iv p4, iv p5, iv 1, iv vv, rv b74, rv b81, rv b106, iv 1, iv 1, iv 0, .unset, .unset, .unset] []))
    refine Goes.on (fun t k => XS.iload X153.here hx rfl (hb hby at_182) rfl k) ?_
    show Goes p e below QQ (T153.setTop (mkF m 184 #[iv p1, iv p2, iv p3, iv p4, iv p5, iv 1, iv vv, rv b74, rv b81, rv b106, iv 1, iv 1, iv 0, .unset, .unset, .unset] [(.int 0)]))
    refine Goes.on (fun t k => XS.aload X153.here hx rfl (hb hby at_184) rfl rfl k) ?_
    show Goes p e below QQ (T153.setTop (mkF m 186 #[iv p1, iv p2, iv p3, iv p4, iv p5, iv 1, iv vv, rv b74, rv b81, rv b106, iv 1, iv 1, iv 0, .unset, .unset, .unset] [(.ref b81), (.int 0)]))
    refine Goes.on (fun t k => XS.iconst X153.here hx rfl (hb hby at_186) k) ?_
    show Goes p e below QQ (T153.setTop (mkF m 187 #[iv p1, iv p2, iv p3, iv p4, iv p5, iv 1, iv vv, rv b74, rv b81, rv b106, iv 1, iv 1, iv 0, .unset, .unset, .unset] [(.int 1), (.ref b81), (.int 0)]))
    refine Goes.on (fun t k => XS.iload X153.here hx rfl (hb hby at_187) rfl k) ?_
    show Goes p e below QQ (T153.setTop (mkF m 189 #[iv p1, iv p2, iv p3, iv p4, iv p5, iv 1, iv vv, rv b74, rv b81, rv b106, iv 1, iv 1, iv 0, .unset, .unset, .unset] [(.int 1), (.int 1), (.ref b81), (.int 0)]))
    refine Goes.on (fun t k => XS.iload X153.here hx rfl (hb hby at_189) rfl k) ?_
    show Goes p e below QQ (T153.setTop (mkF m 191 #[iv p1, iv p2, iv p3, iv p4, iv p5, iv 1, iv vv, rv b74, rv b81, rv b106, iv 1, iv 1, iv 0, .unset, .unset, .unset] [(.int vv), (.int 1), (.int 1), (.ref b81), (.int 0)]))
    refine Goes.on (fun t k => XS.iloadN X153.here hx rfl (hb hby at_191) rfl k) ?_
    show Goes p e below QQ (T153.setTop (mkF m 192 #[iv p1, iv p2, iv p3, iv p4, iv p5, iv 1, iv vv, rv b74, rv b81, rv b106, iv 1, iv 1, iv 0, .unset, .unset, .unset] [(.int p1), (.int vv), (.int 1), (.int 1), (.ref b81), (.int 0)]))
    refine Goes.on (fun t k => XS.iloadN X153.here hx rfl (hb hby at_192) rfl k) ?_
    show Goes p e below QQ (T153.setTop (mkF m 193 #[iv p1, iv p2, iv p3, iv p4, iv p5, iv 1, iv vv, rv b74, rv b81, rv b106, iv 1, iv 1, iv 0, .unset, .unset, .unset] [(.int p2), (.int p1), (.int vv), (.int 1), (.int 1), (.ref b81), (.int 0)]))
    refine Goes.on (fun t k => XS.iloadN X153.here hx rfl (hb hby at_193) rfl k) ?_
    show Goes p e below QQ (T153.setTop (mkF m 194 #[iv p1, iv p2, iv p3, iv p4, iv p5, iv 1, iv vv, rv b74, rv b81, rv b106, iv 1, iv 1, iv 0, .unset, .unset, .unset] [(.int p3), (.int p2), (.int p1), (.int vv), (.int 1), (.int 1), (.ref b81), (.int 0)]))
    refine Goes.on (fun t k => XS.iloadN X153.here hx rfl (hb hby at_194) rfl k) ?_
    show Goes p e below QQ (T153.setTop (mkF m 195 #[iv p1, iv p2, iv p3, iv p4, iv p5, iv 1, iv vv, rv b74, rv b81, rv b106, iv 1, iv 1, iv 0, .unset, .unset, .unset] [(.int p4), (.int p3), (.int p2), (.int p1), (.int vv), (.int 1), (.int 1), (.ref b81), (.int 0)]))
    have Vq195 : Arv Z T141.heap b81 k81 .int (4 : Int32) ([(.int p4), (.int (p4 + (1 : Int32))), (.int (p4 + (2 : Int32))), (.int (p4 + (3 : Int32)))].set vv.toNatClampNeg (.int p1)) (.int (0 : Int32)) := (hrs0 ▸ Vry0)
    obtain ⟨_, _, ⟨T154, L154, k154, n154⟩, -, X154, ⟨Lc154, hQ154, l154, y154, z154⟩, st154⟩ := Jvm.LawKit.callS X153 hx (y := (⟨"com/example/clew/clew/algebra/MembersAdvancePinLaw", "stepOk", "(Z[IIIIIIII)Z"⟩ : MethodName)) hown (mvT hZ (hw _ (List.mem_of_getElem? (i := 63) rfl))) (mvT hZ (hw _ (List.mem_of_getElem? (i := 64) rfl))) (mvT hZ (hw _ (List.mem_of_getElem? (i := 65) rfl))) (mvT hZ (hw _ (List.mem_of_getElem? (i := 66) rfl))) (by decide) (backOf (W := 0) (rmSO l Z a0 hw [] (0 : Int32) b81 (1 : Int32) (1 : Int32) vv p1 p2 p3 p4 k81 p1 T141.heap n0 (Nat.le_trans Z0 K151.1) Vq195 hv4 (by decide) (by first | rfl | simp [expF])) hZ (hw _ (List.mem_of_getElem? (i := 66) rfl)) (hw _ (List.mem_of_getElem? (i := 65) rfl)) (by decide) (by decide)) (g := (mkF m 195 #[iv p1, iv p2, iv p3, iv p4, iv p5, iv 1, iv vv, rv b74, rv b81, rv b106, iv 1, iv 1, iv 0, .unset, .unset, .unset] [(.int p4), (.int p3), (.int p2), (.int p1), (.int vv), (.int 1), (.int 1), (.ref b81), (.int 0)])) rfl (by rw [hml]; rfl) (argsL := [(.int 0), (.ref b81), (.int 1), (.int 1), (.int vv), (.int p1), (.int p2), (.int p3), (.int p4)]) (rest := []) (lenOf pd_6 rfl) rfl (by show 2 * 0 + _ ≤ _; exact Nat.le_of_eq rfl) (hb hby at_195) (fun _ _ => ⟨rfl, e153, (by decide : 5 + 0 ≤ _), (by decide : 16 + 0 ≤ _)⟩)
    dsimp only [Pt.U, Pt.locs, Pt.cells, Pt.slots] at X154 l154 y154 z154 st154 hQ154
    subst l154 y154 z154
    obtain ⟨rfl, M154, e154⟩ := hQ154
    have N154 := Fr.app N153 M154
    refine Goes.on (fun t k => st154 _ k) ?_
    show Goes p e below QQ (T154.setTop (mkF m 198 #[iv p1, iv p2, iv p3, iv p4, iv p5, iv 1, iv vv, rv b74, rv b81, rv b106, iv 1, iv 1, iv 0, .unset, .unset, .unset] [(.int 1)]))
    refine Goes.on (fun t k => XS.ifNo X154.here hx rfl (hb hby at_198) rfl ((if0 _ _).trans (feq (by decide)).1) k) ?_
    show Goes p e below QQ (T154.setTop (mkF m 201 #[iv p1, iv p2, iv p3, iv p4, iv p5, iv 1, iv vv, rv b74, rv b81, rv b106, iv 1, iv 1, iv 0, .unset, .unset, .unset] []))
    refine Goes.on (fun t k => XS.iconst X154.here hx rfl (hb hby at_201) k) ?_
    show Goes p e below QQ (T154.setTop (mkF m 202 #[iv p1, iv p2, iv p3, iv p4, iv p5, iv 1, iv vv, rv b74, rv b81, rv b106, iv 1, iv 1, iv 0, .unset, .unset, .unset] [(.int 1)]))
    refine Goes.on (fun t k => XS.goto X154.here hx rfl (pc0 := 202) (pc' := 206) rfl (hb hby at_202) (by decide) (by decide) k) ?_
    show Goes p e below QQ (T154.setTop (mkF m 206 #[iv p1, iv p2, iv p3, iv p4, iv p5, iv 1, iv vv, rv b74, rv b81, rv b106, iv 1, iv 1, iv 0, .unset, .unset, .unset] [(.int 1)]))
    refine Goes.on (fun t k => XS.istore X154.here hx rfl (hb hby at_206) rfl (l' := #[iv p1, iv p2, iv p3, iv p4, iv p5, iv 1, iv vv, rv b74, rv b81, rv b106, iv 1, iv 1, iv 0, .unset, .unset, .unset]) rfl k) ?_
    show Goes p e below QQ (T154.setTop (mkF m 208 #[iv p1, iv p2, iv p3, iv p4, iv p5, iv 1, iv vv, rv b74, rv b81, rv b106, iv 1, iv 1, iv 0, .unset, .unset, .unset] []))
    refine Goes.on (fun t k => XS.aload X154.here hx rfl (hb hby at_208) rfl rfl k) ?_
    show Goes p e below QQ (T154.setTop (mkF m 210 #[iv p1, iv p2, iv p3, iv p4, iv p5, iv 1, iv vv, rv b74, rv b81, rv b106, iv 1, iv 1, iv 0, .unset, .unset, .unset] [(.ref b106)]))
    refine Goes.on (fun t k => XS.aload X154.here hx rfl (hb hby at_210) rfl rfl k) ?_
    show Goes p e below QQ (T154.setTop (mkF m 212 #[iv p1, iv p2, iv p3, iv p4, iv p5, iv 1, iv vv, rv b74, rv b81, rv b106, iv 1, iv 1, iv 0, .unset, .unset, .unset] [(.ref b81), (.ref b106)]))
    obtain ⟨cq155, kq155, q155a, q155b, q155c⟩ := isOf hZ e154 A106_145
    obtain ⟨_, _, ⟨T155, L155, k155, n155⟩, -, X155, ⟨Lc155, hQ155, l155, y155, z155⟩, st155⟩ := X154.virtualBack hx (y := (⟨"com/example/clew/clew/algebra/Step$Members", "advance", "([I)Z"⟩ : MethodName)) (z := (⟨"com/example/clew/clew/algebra/Step$Members", "advance", "([I)Z"⟩ : MethodName)) hown (mvT hZ (hw _ (List.mem_of_getElem? (i := 58) rfl))) (mvT hZ (hw _ (List.mem_of_getElem? (i := 59) rfl))) (notFace_of_selects (args := #[]) (mvT hZ (hw _ (List.mem_of_getElem? (i := 61) rfl)))) (mvT hZ (hw _ (List.mem_of_getElem? (i := 61) rfl))) (mvT hZ (hw _ (List.mem_of_getElem? (i := 60) rfl))) (by decide) (backOf (W := 0) (rmNo l Z a0 hw [] b106 b81 (1 : Int32) T141.heap n0 (Nat.le_trans Z0 K151.1) next_y0 end_y0) hZ (hw _ (List.mem_of_getElem? (i := 62) rfl)) (hw _ (List.mem_of_getElem? (i := 3) rfl)) (by decide) (by decide)) q155a q155c (g := (mkF m 212 #[iv p1, iv p2, iv p3, iv p4, iv p5, iv 1, iv vv, rv b74, rv b81, rv b106, iv 1, iv 1, iv 0, .unset, .unset, .unset] [(.ref b81), (.ref b106)])) rfl (by rw [hml]; rfl) (Steps.refl _) (argsL := [(.ref b81)]) (rest := []) (lenOf pd_5 rfl) rfl (by show 2 * 0 + _ ≤ _; exact Nat.le_of_eq rfl) (hb hby at_212) (fun _ _ => ⟨rfl, e154, (by decide : 5 + 0 ≤ _), (by decide : 16 + 0 ≤ _)⟩)
    dsimp only [Pt.U, Pt.locs, Pt.cells, Pt.slots] at X155 l155 y155 z155 st155 hQ155
    subst l155 y155 z155
    obtain ⟨rfl, M155, e155⟩ := hQ155
    have N155 := Fr.app N154 M155
    refine Goes.on (fun t k => st155.trans k) ?_
    show Goes p e below QQ (T155.setTop (mkF m 215 #[iv p1, iv p2, iv p3, iv p4, iv p5, iv 1, iv vv, rv b74, rv b81, rv b106, iv 1, iv 1, iv 0, .unset, .unset, .unset] [(.int 0)]))
    refine Goes.on (fun t k => XS.istore X155.here hx rfl (hb hby at_215) rfl (l' := #[iv p1, iv p2, iv p3, iv p4, iv p5, iv 1, iv vv, rv b74, rv b81, rv b106, iv 1, iv 1, iv 0, iv 0, .unset, .unset]) rfl k) ?_
    show Goes p e below QQ (T155.setTop (mkF m 217 #[iv p1, iv p2, iv p3, iv p4, iv p5, iv 1, iv vv, rv b74, rv b81, rv b106, iv 1, iv 1, iv 0, iv 0, .unset, .unset] []))
    refine Goes.on (fun t k => XS.iload X155.here hx rfl (hb hby at_217) rfl k) ?_
    show Goes p e below QQ (T155.setTop (mkF m 219 #[iv p1, iv p2, iv p3, iv p4, iv p5, iv 1, iv vv, rv b74, rv b81, rv b106, iv 1, iv 1, iv 0, iv 0, .unset, .unset] [(.int 1)]))
    refine Goes.on (fun t k => XS.ifNo X155.here hx rfl (hb hby at_219) rfl ((if0 _ _).trans (feq (by decide)).1) k) ?_
    show Goes p e below QQ (T155.setTop (mkF m 222 #[iv p1, iv p2, iv p3, iv p4, iv p5, iv 1, iv vv, rv b74, rv b81, rv b106, iv 1, iv 1, iv 0, iv 0, .unset, .unset] []))
    refine Goes.on (fun t k => XS.iload X155.here hx rfl (hb hby at_222) rfl k) ?_
    show Goes p e below QQ (T155.setTop (mkF m 224 #[iv p1, iv p2, iv p3, iv p4, iv p5, iv 1, iv vv, rv b74, rv b81, rv b106, iv 1, iv 1, iv 0, iv 0, .unset, .unset] [(.int 0)]))
    refine Goes.on (fun t k => XS.aload X155.here hx rfl (hb hby at_224) rfl rfl k) ?_
    show Goes p e below QQ (T155.setTop (mkF m 226 #[iv p1, iv p2, iv p3, iv p4, iv p5, iv 1, iv vv, rv b74, rv b81, rv b106, iv 1, iv 1, iv 0, iv 0, .unset, .unset] [(.ref b81), (.int 0)]))
    refine Goes.on (fun t k => XS.iconst X155.here hx rfl (hb hby at_226) k) ?_
    show Goes p e below QQ (T155.setTop (mkF m 227 #[iv p1, iv p2, iv p3, iv p4, iv p5, iv 1, iv vv, rv b74, rv b81, rv b106, iv 1, iv 1, iv 0, iv 0, .unset, .unset] [(.int 2), (.ref b81), (.int 0)]))
    refine Goes.on (fun t k => XS.iload X155.here hx rfl (hb hby at_227) rfl k) ?_
    show Goes p e below QQ (T155.setTop (mkF m 229 #[iv p1, iv p2, iv p3, iv p4, iv p5, iv 1, iv vv, rv b74, rv b81, rv b106, iv 1, iv 1, iv 0, iv 0, .unset, .unset] [(.int 1), (.int 2), (.ref b81), (.int 0)]))
    refine Goes.on (fun t k => XS.iload X155.here hx rfl (hb hby at_229) rfl k) ?_
    show Goes p e below QQ (T155.setTop (mkF m 231 #[iv p1, iv p2, iv p3, iv p4, iv p5, iv 1, iv vv, rv b74, rv b81, rv b106, iv 1, iv 1, iv 0, iv 0, .unset, .unset] [(.int vv), (.int 1), (.int 2), (.ref b81), (.int 0)]))
    refine Goes.on (fun t k => XS.iloadN X155.here hx rfl (hb hby at_231) rfl k) ?_
    show Goes p e below QQ (T155.setTop (mkF m 232 #[iv p1, iv p2, iv p3, iv p4, iv p5, iv 1, iv vv, rv b74, rv b81, rv b106, iv 1, iv 1, iv 0, iv 0, .unset, .unset] [(.int p1), (.int vv), (.int 1), (.int 2), (.ref b81), (.int 0)]))
    refine Goes.on (fun t k => XS.iloadN X155.here hx rfl (hb hby at_232) rfl k) ?_
    show Goes p e below QQ (T155.setTop (mkF m 233 #[iv p1, iv p2, iv p3, iv p4, iv p5, iv 1, iv vv, rv b74, rv b81, rv b106, iv 1, iv 1, iv 0, iv 0, .unset, .unset] [(.int p2), (.int p1), (.int vv), (.int 1), (.int 2), (.ref b81), (.int 0)]))
    refine Goes.on (fun t k => XS.iloadN X155.here hx rfl (hb hby at_233) rfl k) ?_
    show Goes p e below QQ (T155.setTop (mkF m 234 #[iv p1, iv p2, iv p3, iv p4, iv p5, iv 1, iv vv, rv b74, rv b81, rv b106, iv 1, iv 1, iv 0, iv 0, .unset, .unset] [(.int p3), (.int p2), (.int p1), (.int vv), (.int 1), (.int 2), (.ref b81), (.int 0)]))
    refine Goes.on (fun t k => XS.iloadN X155.here hx rfl (hb hby at_234) rfl k) ?_
    show Goes p e below QQ (T155.setTop (mkF m 235 #[iv p1, iv p2, iv p3, iv p4, iv p5, iv 1, iv vv, rv b74, rv b81, rv b106, iv 1, iv 1, iv 0, iv 0, .unset, .unset] [(.int p4), (.int p3), (.int p2), (.int p1), (.int vv), (.int 1), (.int 2), (.ref b81), (.int 0)]))
    have Vq235 : Arv Z T141.heap b81 k81 .int (4 : Int32) ([(.int p4), (.int (p4 + (1 : Int32))), (.int (p4 + (2 : Int32))), (.int (p4 + (3 : Int32)))].set vv.toNatClampNeg (.int p1)) (.int (0 : Int32)) := (hrs0 ▸ Vry0)
    obtain ⟨_, _, ⟨T156, L156, k156, n156⟩, -, X156, ⟨Lc156, hQ156, l156, y156, z156⟩, st156⟩ := Jvm.LawKit.callS X155 hx (y := (⟨"com/example/clew/clew/algebra/MembersAdvancePinLaw", "stepOk", "(Z[IIIIIIII)Z"⟩ : MethodName)) hown (mvT hZ (hw _ (List.mem_of_getElem? (i := 63) rfl))) (mvT hZ (hw _ (List.mem_of_getElem? (i := 64) rfl))) (mvT hZ (hw _ (List.mem_of_getElem? (i := 65) rfl))) (mvT hZ (hw _ (List.mem_of_getElem? (i := 66) rfl))) (by decide) (backOf (W := 0) (rmSO l Z a0 hw [] (0 : Int32) b81 (2 : Int32) (1 : Int32) vv p1 p2 p3 p4 k81 p1 T141.heap n0 (Nat.le_trans Z0 K151.1) Vq235 hv4 (by decide) (by first | rfl | simp [expF])) hZ (hw _ (List.mem_of_getElem? (i := 66) rfl)) (hw _ (List.mem_of_getElem? (i := 65) rfl)) (by decide) (by decide)) (g := (mkF m 235 #[iv p1, iv p2, iv p3, iv p4, iv p5, iv 1, iv vv, rv b74, rv b81, rv b106, iv 1, iv 1, iv 0, iv 0, .unset, .unset] [(.int p4), (.int p3), (.int p2), (.int p1), (.int vv), (.int 1), (.int 2), (.ref b81), (.int 0)])) rfl (by rw [hml]; rfl) (argsL := [(.int 0), (.ref b81), (.int 2), (.int 1), (.int vv), (.int p1), (.int p2), (.int p3), (.int p4)]) (rest := []) (lenOf pd_6 rfl) rfl (by show 2 * 0 + _ ≤ _; exact Nat.le_of_eq rfl) (hb hby at_235) (fun _ _ => ⟨rfl, e155, (by decide : 5 + 0 ≤ _), (by decide : 16 + 0 ≤ _)⟩)
    dsimp only [Pt.U, Pt.locs, Pt.cells, Pt.slots] at X156 l156 y156 z156 st156 hQ156
    subst l156 y156 z156
    obtain ⟨rfl, M156, e156⟩ := hQ156
    have N156 := Fr.app N155 M156
    refine Goes.on (fun t k => st156 _ k) ?_
    show Goes p e below QQ (T156.setTop (mkF m 238 #[iv p1, iv p2, iv p3, iv p4, iv p5, iv 1, iv vv, rv b74, rv b81, rv b106, iv 1, iv 1, iv 0, iv 0, .unset, .unset] [(.int 1)]))
    refine Goes.on (fun t k => XS.ifNo X156.here hx rfl (hb hby at_238) rfl ((if0 _ _).trans (feq (by decide)).1) k) ?_
    show Goes p e below QQ (T156.setTop (mkF m 241 #[iv p1, iv p2, iv p3, iv p4, iv p5, iv 1, iv vv, rv b74, rv b81, rv b106, iv 1, iv 1, iv 0, iv 0, .unset, .unset] []))
    refine Goes.on (fun t k => XS.iconst X156.here hx rfl (hb hby at_241) k) ?_
    show Goes p e below QQ (T156.setTop (mkF m 242 #[iv p1, iv p2, iv p3, iv p4, iv p5, iv 1, iv vv, rv b74, rv b81, rv b106, iv 1, iv 1, iv 0, iv 0, .unset, .unset] [(.int 1)]))
    refine Goes.on (fun t k => XS.goto X156.here hx rfl (pc0 := 242) (pc' := 246) rfl (hb hby at_242) (by decide) (by decide) k) ?_
    show Goes p e below QQ (T156.setTop (mkF m 246 #[iv p1, iv p2, iv p3, iv p4, iv p5, iv 1, iv vv, rv b74, rv b81, rv b106, iv 1, iv 1, iv 0, iv 0, .unset, .unset] [(.int 1)]))
    refine Goes.on (fun t k => XS.istore X156.here hx rfl (hb hby at_246) rfl (l' := #[iv p1, iv p2, iv p3, iv p4, iv p5, iv 1, iv vv, rv b74, rv b81, rv b106, iv 1, iv 1, iv 0, iv 0, .unset, .unset]) rfl k) ?_
    show Goes p e below QQ (T156.setTop (mkF m 248 #[iv p1, iv p2, iv p3, iv p4, iv p5, iv 1, iv vv, rv b74, rv b81, rv b106, iv 1, iv 1, iv 0, iv 0, .unset, .unset] []))
    refine Goes.on (fun t k => XS.aload X156.here hx rfl (hb hby at_248) rfl rfl k) ?_
    show Goes p e below QQ (T156.setTop (mkF m 250 #[iv p1, iv p2, iv p3, iv p4, iv p5, iv 1, iv vv, rv b74, rv b81, rv b106, iv 1, iv 1, iv 0, iv 0, .unset, .unset] [(.ref b106)]))
    refine Goes.on (fun t k => XS.aload X156.here hx rfl (hb hby at_250) rfl rfl k) ?_
    show Goes p e below QQ (T156.setTop (mkF m 252 #[iv p1, iv p2, iv p3, iv p4, iv p5, iv 1, iv vv, rv b74, rv b81, rv b106, iv 1, iv 1, iv 0, iv 0, .unset, .unset] [(.ref b81), (.ref b106)]))
    obtain ⟨cq157, kq157, q157a, q157b, q157c⟩ := isOf hZ e156 A106_145
    obtain ⟨_, _, ⟨T157, L157, k157, n157⟩, -, X157, ⟨Lc157, hQ157, l157, y157, z157⟩, st157⟩ := X156.virtualBack hx (y := (⟨"com/example/clew/clew/algebra/Step$Members", "advance", "([I)Z"⟩ : MethodName)) (z := (⟨"com/example/clew/clew/algebra/Step$Members", "advance", "([I)Z"⟩ : MethodName)) hown (mvT hZ (hw _ (List.mem_of_getElem? (i := 58) rfl))) (mvT hZ (hw _ (List.mem_of_getElem? (i := 59) rfl))) (notFace_of_selects (args := #[]) (mvT hZ (hw _ (List.mem_of_getElem? (i := 61) rfl)))) (mvT hZ (hw _ (List.mem_of_getElem? (i := 61) rfl))) (mvT hZ (hw _ (List.mem_of_getElem? (i := 60) rfl))) (by decide) (backOf (W := 0) (rmNo l Z a0 hw [] b106 b81 (1 : Int32) T141.heap n0 (Nat.le_trans Z0 K151.1) next_y0 end_y0) hZ (hw _ (List.mem_of_getElem? (i := 62) rfl)) (hw _ (List.mem_of_getElem? (i := 3) rfl)) (by decide) (by decide)) q157a q157c (g := (mkF m 252 #[iv p1, iv p2, iv p3, iv p4, iv p5, iv 1, iv vv, rv b74, rv b81, rv b106, iv 1, iv 1, iv 0, iv 0, .unset, .unset] [(.ref b81), (.ref b106)])) rfl (by rw [hml]; rfl) (Steps.refl _) (argsL := [(.ref b81)]) (rest := []) (lenOf pd_5 rfl) rfl (by show 2 * 0 + _ ≤ _; exact Nat.le_of_eq rfl) (hb hby at_252) (fun _ _ => ⟨rfl, e156, (by decide : 5 + 0 ≤ _), (by decide : 16 + 0 ≤ _)⟩)
    dsimp only [Pt.U, Pt.locs, Pt.cells, Pt.slots] at X157 l157 y157 z157 st157 hQ157
    subst l157 y157 z157
    obtain ⟨rfl, M157, e157⟩ := hQ157
    have N157 := Fr.app N156 M157
    refine Goes.on (fun t k => st157.trans k) ?_
    show Goes p e below QQ (T157.setTop (mkF m 255 #[iv p1, iv p2, iv p3, iv p4, iv p5, iv 1, iv vv, rv b74, rv b81, rv b106, iv 1, iv 1, iv 0, iv 0, .unset, .unset] [(.int 0)]))
    refine Goes.on (fun t k => XS.istore X157.here hx rfl (hb hby at_255) rfl (l' := #[iv p1, iv p2, iv p3, iv p4, iv p5, iv 1, iv vv, rv b74, rv b81, rv b106, iv 1, iv 1, iv 0, iv 0, iv 0, .unset]) rfl k) ?_
    show Goes p e below QQ (T157.setTop (mkF m 257 #[iv p1, iv p2, iv p3, iv p4, iv p5, iv 1, iv vv, rv b74, rv b81, rv b106, iv 1, iv 1, iv 0, iv 0, iv 0, .unset] []))
    refine Goes.on (fun t k => XS.iload X157.here hx rfl (hb hby at_257) rfl k) ?_
    show Goes p e below QQ (T157.setTop (mkF m 259 #[iv p1, iv p2, iv p3, iv p4, iv p5, iv 1, iv vv, rv b74, rv b81, rv b106, iv 1, iv 1, iv 0, iv 0, iv 0, .unset] [(.int 1)]))
    refine Goes.on (fun t k => XS.ifNo X157.here hx rfl (hb hby at_259) rfl ((if0 _ _).trans (feq (by decide)).1) k) ?_
    show Goes p e below QQ (T157.setTop (mkF m 262 #[iv p1, iv p2, iv p3, iv p4, iv p5, iv 1, iv vv, rv b74, rv b81, rv b106, iv 1, iv 1, iv 0, iv 0, iv 0, .unset] []))
    refine Goes.on (fun t k => XS.iload X157.here hx rfl (hb hby at_262) rfl k) ?_
    show Goes p e below QQ (T157.setTop (mkF m 264 #[iv p1, iv p2, iv p3, iv p4, iv p5, iv 1, iv vv, rv b74, rv b81, rv b106, iv 1, iv 1, iv 0, iv 0, iv 0, .unset] [(.int 0)]))
    refine Goes.on (fun t k => XS.aload X157.here hx rfl (hb hby at_264) rfl rfl k) ?_
    show Goes p e below QQ (T157.setTop (mkF m 266 #[iv p1, iv p2, iv p3, iv p4, iv p5, iv 1, iv vv, rv b74, rv b81, rv b106, iv 1, iv 1, iv 0, iv 0, iv 0, .unset] [(.ref b81), (.int 0)]))
    refine Goes.on (fun t k => XS.iconst X157.here hx rfl (hb hby at_266) k) ?_
    show Goes p e below QQ (T157.setTop (mkF m 267 #[iv p1, iv p2, iv p3, iv p4, iv p5, iv 1, iv vv, rv b74, rv b81, rv b106, iv 1, iv 1, iv 0, iv 0, iv 0, .unset] [(.int 3), (.ref b81), (.int 0)]))
    refine Goes.on (fun t k => XS.iload X157.here hx rfl (hb hby at_267) rfl k) ?_
    show Goes p e below QQ (T157.setTop (mkF m 269 #[iv p1, iv p2, iv p3, iv p4, iv p5, iv 1, iv vv, rv b74, rv b81, rv b106, iv 1, iv 1, iv 0, iv 0, iv 0, .unset] [(.int 1), (.int 3), (.ref b81), (.int 0)]))
    refine Goes.on (fun t k => XS.iload X157.here hx rfl (hb hby at_269) rfl k) ?_
    show Goes p e below QQ (T157.setTop (mkF m 271 #[iv p1, iv p2, iv p3, iv p4, iv p5, iv 1, iv vv, rv b74, rv b81, rv b106, iv 1, iv 1, iv 0, iv 0, iv 0, .unset] [(.int vv), (.int 1), (.int 3), (.ref b81), (.int 0)]))
    refine Goes.on (fun t k => XS.iloadN X157.here hx rfl (hb hby at_271) rfl k) ?_
    show Goes p e below QQ (T157.setTop (mkF m 272 #[iv p1, iv p2, iv p3, iv p4, iv p5, iv 1, iv vv, rv b74, rv b81, rv b106, iv 1, iv 1, iv 0, iv 0, iv 0, .unset] [(.int p1), (.int vv), (.int 1), (.int 3), (.ref b81), (.int 0)]))
    refine Goes.on (fun t k => XS.iloadN X157.here hx rfl (hb hby at_272) rfl k) ?_
    show Goes p e below QQ (T157.setTop (mkF m 273 #[iv p1, iv p2, iv p3, iv p4, iv p5, iv 1, iv vv, rv b74, rv b81, rv b106, iv 1, iv 1, iv 0, iv 0, iv 0, .unset] [(.int p2), (.int p1), (.int vv), (.int 1), (.int 3), (.ref b81), (.int 0)]))
    refine Goes.on (fun t k => XS.iloadN X157.here hx rfl (hb hby at_273) rfl k) ?_
    show Goes p e below QQ (T157.setTop (mkF m 274 #[iv p1, iv p2, iv p3, iv p4, iv p5, iv 1, iv vv, rv b74, rv b81, rv b106, iv 1, iv 1, iv 0, iv 0, iv 0, .unset] [(.int p3), (.int p2), (.int p1), (.int vv), (.int 1), (.int 3), (.ref b81), (.int 0)]))
    refine Goes.on (fun t k => XS.iloadN X157.here hx rfl (hb hby at_274) rfl k) ?_
    show Goes p e below QQ (T157.setTop (mkF m 275 #[iv p1, iv p2, iv p3, iv p4, iv p5, iv 1, iv vv, rv b74, rv b81, rv b106, iv 1, iv 1, iv 0, iv 0, iv 0, .unset] [(.int p4), (.int p3), (.int p2), (.int p1), (.int vv), (.int 1), (.int 3), (.ref b81), (.int 0)]))
    have Vq275 : Arv Z T141.heap b81 k81 .int (4 : Int32) ([(.int p4), (.int (p4 + (1 : Int32))), (.int (p4 + (2 : Int32))), (.int (p4 + (3 : Int32)))].set vv.toNatClampNeg (.int p1)) (.int (0 : Int32)) := (hrs0 ▸ Vry0)
    obtain ⟨_, _, ⟨T158, L158, k158, n158⟩, -, X158, ⟨Lc158, hQ158, l158, y158, z158⟩, st158⟩ := Jvm.LawKit.callS X157 hx (y := (⟨"com/example/clew/clew/algebra/MembersAdvancePinLaw", "stepOk", "(Z[IIIIIIII)Z"⟩ : MethodName)) hown (mvT hZ (hw _ (List.mem_of_getElem? (i := 63) rfl))) (mvT hZ (hw _ (List.mem_of_getElem? (i := 64) rfl))) (mvT hZ (hw _ (List.mem_of_getElem? (i := 65) rfl))) (mvT hZ (hw _ (List.mem_of_getElem? (i := 66) rfl))) (by decide) (backOf (W := 0) (rmSO l Z a0 hw [] (0 : Int32) b81 (3 : Int32) (1 : Int32) vv p1 p2 p3 p4 k81 p1 T141.heap n0 (Nat.le_trans Z0 K151.1) Vq275 hv4 (by decide) (by first | rfl | simp [expF])) hZ (hw _ (List.mem_of_getElem? (i := 66) rfl)) (hw _ (List.mem_of_getElem? (i := 65) rfl)) (by decide) (by decide)) (g := (mkF m 275 #[iv p1, iv p2, iv p3, iv p4, iv p5, iv 1, iv vv, rv b74, rv b81, rv b106, iv 1, iv 1, iv 0, iv 0, iv 0, .unset] [(.int p4), (.int p3), (.int p2), (.int p1), (.int vv), (.int 1), (.int 3), (.ref b81), (.int 0)])) rfl (by rw [hml]; rfl) (argsL := [(.int 0), (.ref b81), (.int 3), (.int 1), (.int vv), (.int p1), (.int p2), (.int p3), (.int p4)]) (rest := []) (lenOf pd_6 rfl) rfl (by show 2 * 0 + _ ≤ _; exact Nat.le_of_eq rfl) (hb hby at_275) (fun _ _ => ⟨rfl, e157, (by decide : 5 + 0 ≤ _), (by decide : 16 + 0 ≤ _)⟩)
    dsimp only [Pt.U, Pt.locs, Pt.cells, Pt.slots] at X158 l158 y158 z158 st158 hQ158
    subst l158 y158 z158
    obtain ⟨rfl, M158, e158⟩ := hQ158
    have N158 := Fr.app N157 M158
    refine Goes.on (fun t k => st158 _ k) ?_
    show Goes p e below QQ (T158.setTop (mkF m 278 #[iv p1, iv p2, iv p3, iv p4, iv p5, iv 1, iv vv, rv b74, rv b81, rv b106, iv 1, iv 1, iv 0, iv 0, iv 0, .unset] [(.int 1)]))
    refine Goes.on (fun t k => XS.ifNo X158.here hx rfl (hb hby at_278) rfl ((if0 _ _).trans (feq (by decide)).1) k) ?_
    show Goes p e below QQ (T158.setTop (mkF m 281 #[iv p1, iv p2, iv p3, iv p4, iv p5, iv 1, iv vv, rv b74, rv b81, rv b106, iv 1, iv 1, iv 0, iv 0, iv 0, .unset] []))
    refine Goes.on (fun t k => XS.iconst X158.here hx rfl (hb hby at_281) k) ?_
    show Goes p e below QQ (T158.setTop (mkF m 282 #[iv p1, iv p2, iv p3, iv p4, iv p5, iv 1, iv vv, rv b74, rv b81, rv b106, iv 1, iv 1, iv 0, iv 0, iv 0, .unset] [(.int 1)]))
    refine Goes.on (fun t k => XS.goto X158.here hx rfl (pc0 := 282) (pc' := 286) rfl (hb hby at_282) (by decide) (by decide) k) ?_
    show Goes p e below QQ (T158.setTop (mkF m 286 #[iv p1, iv p2, iv p3, iv p4, iv p5, iv 1, iv vv, rv b74, rv b81, rv b106, iv 1, iv 1, iv 0, iv 0, iv 0, .unset] [(.int 1)]))
    refine Goes.on (fun t k => XS.istore X158.here hx rfl (hb hby at_286) rfl (l' := #[iv p1, iv p2, iv p3, iv p4, iv p5, iv 1, iv vv, rv b74, rv b81, rv b106, iv 1, iv 1, iv 0, iv 0, iv 0, .unset]) rfl k) ?_
    show Goes p e below QQ (T158.setTop (mkF m 288 #[iv p1, iv p2, iv p3, iv p4, iv p5, iv 1, iv vv, rv b74, rv b81, rv b106, iv 1, iv 1, iv 0, iv 0, iv 0, .unset] []))
    refine Goes.on (fun t k => XS.aload X158.here hx rfl (hb hby at_288) rfl rfl k) ?_
    show Goes p e below QQ (T158.setTop (mkF m 290 #[iv p1, iv p2, iv p3, iv p4, iv p5, iv 1, iv vv, rv b74, rv b81, rv b106, iv 1, iv 1, iv 0, iv 0, iv 0, .unset] [(.ref b106)]))
    refine Goes.on (fun t k => XS.aload X158.here hx rfl (hb hby at_290) rfl rfl k) ?_
    show Goes p e below QQ (T158.setTop (mkF m 292 #[iv p1, iv p2, iv p3, iv p4, iv p5, iv 1, iv vv, rv b74, rv b81, rv b106, iv 1, iv 1, iv 0, iv 0, iv 0, .unset] [(.ref b81), (.ref b106)]))
    obtain ⟨cq159, kq159, q159a, q159b, q159c⟩ := isOf hZ e158 A106_145
    obtain ⟨_, _, ⟨T159, L159, k159, n159⟩, -, X159, ⟨Lc159, hQ159, l159, y159, z159⟩, st159⟩ := X158.virtualBack hx (y := (⟨"com/example/clew/clew/algebra/Step$Members", "advance", "([I)Z"⟩ : MethodName)) (z := (⟨"com/example/clew/clew/algebra/Step$Members", "advance", "([I)Z"⟩ : MethodName)) hown (mvT hZ (hw _ (List.mem_of_getElem? (i := 58) rfl))) (mvT hZ (hw _ (List.mem_of_getElem? (i := 59) rfl))) (notFace_of_selects (args := #[]) (mvT hZ (hw _ (List.mem_of_getElem? (i := 61) rfl)))) (mvT hZ (hw _ (List.mem_of_getElem? (i := 61) rfl))) (mvT hZ (hw _ (List.mem_of_getElem? (i := 60) rfl))) (by decide) (backOf (W := 0) (rmNo l Z a0 hw [] b106 b81 (1 : Int32) T141.heap n0 (Nat.le_trans Z0 K151.1) next_y0 end_y0) hZ (hw _ (List.mem_of_getElem? (i := 62) rfl)) (hw _ (List.mem_of_getElem? (i := 3) rfl)) (by decide) (by decide)) q159a q159c (g := (mkF m 292 #[iv p1, iv p2, iv p3, iv p4, iv p5, iv 1, iv vv, rv b74, rv b81, rv b106, iv 1, iv 1, iv 0, iv 0, iv 0, .unset] [(.ref b81), (.ref b106)])) rfl (by rw [hml]; rfl) (Steps.refl _) (argsL := [(.ref b81)]) (rest := []) (lenOf pd_5 rfl) rfl (by show 2 * 0 + _ ≤ _; exact Nat.le_of_eq rfl) (hb hby at_292) (fun _ _ => ⟨rfl, e158, (by decide : 5 + 0 ≤ _), (by decide : 16 + 0 ≤ _)⟩)
    dsimp only [Pt.U, Pt.locs, Pt.cells, Pt.slots] at X159 l159 y159 z159 st159 hQ159
    subst l159 y159 z159
    obtain ⟨rfl, M159, e159⟩ := hQ159
    have N159 := Fr.app N158 M159
    refine Goes.on (fun t k => st159.trans k) ?_
    show Goes p e below QQ (T159.setTop (mkF m 295 #[iv p1, iv p2, iv p3, iv p4, iv p5, iv 1, iv vv, rv b74, rv b81, rv b106, iv 1, iv 1, iv 0, iv 0, iv 0, .unset] [(.int 0)]))
    refine Goes.on (fun t k => XS.istore X159.here hx rfl (hb hby at_295) rfl (l' := #[iv p1, iv p2, iv p3, iv p4, iv p5, iv 1, iv vv, rv b74, rv b81, rv b106, iv 1, iv 1, iv 0, iv 0, iv 0, iv 0]) rfl k) ?_
    show Goes p e below QQ (T159.setTop (mkF m 297 #[iv p1, iv p2, iv p3, iv p4, iv p5, iv 1, iv vv, rv b74, rv b81, rv b106, iv 1, iv 1, iv 0, iv 0, iv 0, iv 0] []))
    refine Goes.on (fun t k => XS.iload X159.here hx rfl (hb hby at_297) rfl k) ?_
    show Goes p e below QQ (T159.setTop (mkF m 299 #[iv p1, iv p2, iv p3, iv p4, iv p5, iv 1, iv vv, rv b74, rv b81, rv b106, iv 1, iv 1, iv 0, iv 0, iv 0, iv 0] [(.int 1)]))
    refine Goes.on (fun t k => XS.ifNo X159.here hx rfl (hb hby at_299) rfl ((if0 _ _).trans (feq (by decide)).1) k) ?_
    show Goes p e below QQ (T159.setTop (mkF m 302 #[iv p1, iv p2, iv p3, iv p4, iv p5, iv 1, iv vv, rv b74, rv b81, rv b106, iv 1, iv 1, iv 0, iv 0, iv 0, iv 0] []))
    refine Goes.on (fun t k => XS.iload X159.here hx rfl (hb hby at_302) rfl k) ?_
    show Goes p e below QQ (T159.setTop (mkF m 304 #[iv p1, iv p2, iv p3, iv p4, iv p5, iv 1, iv vv, rv b74, rv b81, rv b106, iv 1, iv 1, iv 0, iv 0, iv 0, iv 0] [(.int 0)]))
    refine Goes.on (fun t k => XS.aload X159.here hx rfl (hb hby at_304) rfl rfl k) ?_
    show Goes p e below QQ (T159.setTop (mkF m 306 #[iv p1, iv p2, iv p3, iv p4, iv p5, iv 1, iv vv, rv b74, rv b81, rv b106, iv 1, iv 1, iv 0, iv 0, iv 0, iv 0] [(.ref b81), (.int 0)]))
    refine Goes.on (fun t k => XS.iconst X159.here hx rfl (hb hby at_306) k) ?_
    show Goes p e below QQ (T159.setTop (mkF m 307 #[iv p1, iv p2, iv p3, iv p4, iv p5, iv 1, iv vv, rv b74, rv b81, rv b106, iv 1, iv 1, iv 0, iv 0, iv 0, iv 0] [(.int 4), (.ref b81), (.int 0)]))
    refine Goes.on (fun t k => XS.iload X159.here hx rfl (hb hby at_307) rfl k) ?_
    show Goes p e below QQ (T159.setTop (mkF m 309 #[iv p1, iv p2, iv p3, iv p4, iv p5, iv 1, iv vv, rv b74, rv b81, rv b106, iv 1, iv 1, iv 0, iv 0, iv 0, iv 0] [(.int 1), (.int 4), (.ref b81), (.int 0)]))
    refine Goes.on (fun t k => XS.iload X159.here hx rfl (hb hby at_309) rfl k) ?_
    show Goes p e below QQ (T159.setTop (mkF m 311 #[iv p1, iv p2, iv p3, iv p4, iv p5, iv 1, iv vv, rv b74, rv b81, rv b106, iv 1, iv 1, iv 0, iv 0, iv 0, iv 0] [(.int vv), (.int 1), (.int 4), (.ref b81), (.int 0)]))
    refine Goes.on (fun t k => XS.iloadN X159.here hx rfl (hb hby at_311) rfl k) ?_
    show Goes p e below QQ (T159.setTop (mkF m 312 #[iv p1, iv p2, iv p3, iv p4, iv p5, iv 1, iv vv, rv b74, rv b81, rv b106, iv 1, iv 1, iv 0, iv 0, iv 0, iv 0] [(.int p1), (.int vv), (.int 1), (.int 4), (.ref b81), (.int 0)]))
    refine Goes.on (fun t k => XS.iloadN X159.here hx rfl (hb hby at_312) rfl k) ?_
    show Goes p e below QQ (T159.setTop (mkF m 313 #[iv p1, iv p2, iv p3, iv p4, iv p5, iv 1, iv vv, rv b74, rv b81, rv b106, iv 1, iv 1, iv 0, iv 0, iv 0, iv 0] [(.int p2), (.int p1), (.int vv), (.int 1), (.int 4), (.ref b81), (.int 0)]))
    refine Goes.on (fun t k => XS.iloadN X159.here hx rfl (hb hby at_313) rfl k) ?_
    show Goes p e below QQ (T159.setTop (mkF m 314 #[iv p1, iv p2, iv p3, iv p4, iv p5, iv 1, iv vv, rv b74, rv b81, rv b106, iv 1, iv 1, iv 0, iv 0, iv 0, iv 0] [(.int p3), (.int p2), (.int p1), (.int vv), (.int 1), (.int 4), (.ref b81), (.int 0)]))
    refine Goes.on (fun t k => XS.iloadN X159.here hx rfl (hb hby at_314) rfl k) ?_
    show Goes p e below QQ (T159.setTop (mkF m 315 #[iv p1, iv p2, iv p3, iv p4, iv p5, iv 1, iv vv, rv b74, rv b81, rv b106, iv 1, iv 1, iv 0, iv 0, iv 0, iv 0] [(.int p4), (.int p3), (.int p2), (.int p1), (.int vv), (.int 1), (.int 4), (.ref b81), (.int 0)]))
    have Vq315 : Arv Z T141.heap b81 k81 .int (4 : Int32) ([(.int p4), (.int (p4 + (1 : Int32))), (.int (p4 + (2 : Int32))), (.int (p4 + (3 : Int32)))].set vv.toNatClampNeg (.int p1)) (.int (0 : Int32)) := (hrs0 ▸ Vry0)
    obtain ⟨_, _, ⟨T160, L160, k160, n160⟩, -, X160, ⟨Lc160, hQ160, l160, y160, z160⟩, st160⟩ := Jvm.LawKit.callS X159 hx (y := (⟨"com/example/clew/clew/algebra/MembersAdvancePinLaw", "stepOk", "(Z[IIIIIIII)Z"⟩ : MethodName)) hown (mvT hZ (hw _ (List.mem_of_getElem? (i := 63) rfl))) (mvT hZ (hw _ (List.mem_of_getElem? (i := 64) rfl))) (mvT hZ (hw _ (List.mem_of_getElem? (i := 65) rfl))) (mvT hZ (hw _ (List.mem_of_getElem? (i := 66) rfl))) (by decide) (backOf (W := 0) (rmSO l Z a0 hw [] (0 : Int32) b81 (4 : Int32) (1 : Int32) vv p1 p2 p3 p4 k81 p1 T141.heap n0 (Nat.le_trans Z0 K151.1) Vq315 hv4 (by decide) (by first | rfl | simp [expF])) hZ (hw _ (List.mem_of_getElem? (i := 66) rfl)) (hw _ (List.mem_of_getElem? (i := 65) rfl)) (by decide) (by decide)) (g := (mkF m 315 #[iv p1, iv p2, iv p3, iv p4, iv p5, iv 1, iv vv, rv b74, rv b81, rv b106, iv 1, iv 1, iv 0, iv 0, iv 0, iv 0] [(.int p4), (.int p3), (.int p2), (.int p1), (.int vv), (.int 1), (.int 4), (.ref b81), (.int 0)])) rfl (by rw [hml]; rfl) (argsL := [(.int 0), (.ref b81), (.int 4), (.int 1), (.int vv), (.int p1), (.int p2), (.int p3), (.int p4)]) (rest := []) (lenOf pd_6 rfl) rfl (by show 2 * 0 + _ ≤ _; exact Nat.le_of_eq rfl) (hb hby at_315) (fun _ _ => ⟨rfl, e159, (by decide : 5 + 0 ≤ _), (by decide : 16 + 0 ≤ _)⟩)
    dsimp only [Pt.U, Pt.locs, Pt.cells, Pt.slots] at X160 l160 y160 z160 st160 hQ160
    subst l160 y160 z160
    obtain ⟨rfl, M160, e160⟩ := hQ160
    have N160 := Fr.app N159 M160
    refine Goes.on (fun t k => st160 _ k) ?_
    show Goes p e below QQ (T160.setTop (mkF m 318 #[iv p1, iv p2, iv p3, iv p4, iv p5, iv 1, iv vv, rv b74, rv b81, rv b106, iv 1, iv 1, iv 0, iv 0, iv 0, iv 0] [(.int 1)]))
    refine Goes.on (fun t k => XS.ifNo X160.here hx rfl (hb hby at_318) rfl ((if0 _ _).trans (feq (by decide)).1) k) ?_
    show Goes p e below QQ (T160.setTop (mkF m 321 #[iv p1, iv p2, iv p3, iv p4, iv p5, iv 1, iv vv, rv b74, rv b81, rv b106, iv 1, iv 1, iv 0, iv 0, iv 0, iv 0] []))
    refine Goes.on (fun t k => XS.iconst X160.here hx rfl (hb hby at_321) k) ?_
    show Goes p e below QQ (T160.setTop (mkF m 322 #[iv p1, iv p2, iv p3, iv p4, iv p5, iv 1, iv vv, rv b74, rv b81, rv b106, iv 1, iv 1, iv 0, iv 0, iv 0, iv 0] [(.int 1)]))
    refine Goes.on (fun t k => XS.goto X160.here hx rfl (pc0 := 322) (pc' := 326) rfl (hb hby at_322) (by decide) (by decide) k) ?_
    show Goes p e below QQ (T160.setTop (mkF m 326 #[iv p1, iv p2, iv p3, iv p4, iv p5, iv 1, iv vv, rv b74, rv b81, rv b106, iv 1, iv 1, iv 0, iv 0, iv 0, iv 0] [(.int 1)]))
    refine Goes.on (fun t k => XS.istore X160.here hx rfl (hb hby at_326) rfl (l' := #[iv p1, iv p2, iv p3, iv p4, iv p5, iv 1, iv vv, rv b74, rv b81, rv b106, iv 1, iv 1, iv 0, iv 0, iv 0, iv 0]) rfl k) ?_
    show Goes p e below QQ (T160.setTop (mkF m 328 #[iv p1, iv p2, iv p3, iv p4, iv p5, iv 1, iv vv, rv b74, rv b81, rv b106, iv 1, iv 1, iv 0, iv 0, iv 0, iv 0] []))
    refine Goes.on (fun t k => XS.iload X160.here hx rfl (hb hby at_328) rfl k) ?_
    show Goes p e below QQ (T160.setTop (mkF m 330 #[iv p1, iv p2, iv p3, iv p4, iv p5, iv 1, iv vv, rv b74, rv b81, rv b106, iv 1, iv 1, iv 0, iv 0, iv 0, iv 0] [(.int 1)]))
    exact Goes.rN X160 hx (t := .boolean) hret (by simp) hlk (hb hby at_330) hQQ ⟨rfl, N160⟩ (by decide) (by decide)
  · show Goes p e below QQ (s₁.setTop (mkF m 14 #[iv p1, iv p2, iv p3, iv p4, iv p5, iv 2, iv vv, .unset, .unset, .unset, .unset, .unset, .unset, .unset, .unset, .unset] []))
    refine Goes.on (fun t k => XS.iload X0.here hx rfl (hb hby at_14) rfl k) ?_
    show Goes p e below QQ (s₁.setTop (mkF m 16 #[iv p1, iv p2, iv p3, iv p4, iv p5, iv 2, iv vv, .unset, .unset, .unset, .unset, .unset, .unset, .unset, .unset, .unset] [(.int 2)]))
    refine Goes.on (fun t k => XS.ifYes X0.here hx rfl (pc0 := 16) (pc' := 25) rfl (hb hby at_16) rfl ((if0 _ _).trans (feq (by decide)).2) (by decide) (by decide) k) ?_
    show Goes p e below QQ (s₁.setTop (mkF m 25 #[iv p1, iv p2, iv p3, iv p4, iv p5, iv 2, iv vv, .unset, .unset, .unset, .unset, .unset, .unset, .unset, .unset, .unset] []))
    refine Goes.on (fun t k => XS.iload X0.here hx rfl (hb hby at_25) rfl k) ?_
    show Goes p e below QQ (s₁.setTop (mkF m 27 #[iv p1, iv p2, iv p3, iv p4, iv p5, iv 2, iv vv, .unset, .unset, .unset, .unset, .unset, .unset, .unset, .unset, .unset] [(.int 2)]))
    refine Goes.on (fun t k => XS.iconst X0.here hx rfl (hb hby at_27) k) ?_
    show Goes p e below QQ (s₁.setTop (mkF m 28 #[iv p1, iv p2, iv p3, iv p4, iv p5, iv 2, iv vv, .unset, .unset, .unset, .unset, .unset, .unset, .unset, .unset, .unset] [(.int 1), (.int 2)]))
    refine Goes.on (fun t k => XS.icmpYes X0.here hx rfl (pc0 := 28) (pc' := 41) rfl (hb hby at_28) rfl (feq (by decide)).2 (by decide) (by decide) k) ?_
    show Goes p e below QQ (s₁.setTop (mkF m 41 #[iv p1, iv p2, iv p3, iv p4, iv p5, iv 2, iv vv, .unset, .unset, .unset, .unset, .unset, .unset, .unset, .unset, .unset] []))
    refine Goes.on (fun t k => XS.iload X0.here hx rfl (hb hby at_41) rfl k) ?_
    show Goes p e below QQ (s₁.setTop (mkF m 43 #[iv p1, iv p2, iv p3, iv p4, iv p5, iv 2, iv vv, .unset, .unset, .unset, .unset, .unset, .unset, .unset, .unset, .unset] [(.int 2)]))
    refine Goes.on (fun t k => XS.iconst X0.here hx rfl (hb hby at_43) k) ?_
    show Goes p e below QQ (s₁.setTop (mkF m 44 #[iv p1, iv p2, iv p3, iv p4, iv p5, iv 2, iv vv, .unset, .unset, .unset, .unset, .unset, .unset, .unset, .unset, .unset] [(.int 2), (.int 2)]))
    refine Goes.on (fun t k => XS.icmpNo X0.here hx rfl (hb hby at_44) rfl (teq (by decide)).2 k) ?_
    show Goes p e below QQ (s₁.setTop (mkF m 47 #[iv p1, iv p2, iv p3, iv p4, iv p5, iv 2, iv vv, .unset, .unset, .unset, .unset, .unset, .unset, .unset, .unset, .unset] []))
    refine Goes.on (fun t k => XS.iconst X0.here hx rfl (hb hby at_47) k) ?_
    show Goes p e below QQ (s₁.setTop (mkF m 48 #[iv p1, iv p2, iv p3, iv p4, iv p5, iv 2, iv vv, .unset, .unset, .unset, .unset, .unset, .unset, .unset, .unset, .unset] [(.int 2)]))
    obtain ⟨T161, h161, k161, X161, e161, E161, A161, st161⟩ := newP X0 hx hZ (hw _ (List.mem_of_getElem? (i := 0) rfl)) e0 (g := (mkF m 48 #[iv p1, iv p2, iv p3, iv p4, iv p5, iv 2, iv vv, .unset, .unset, .unset, .unset, .unset, .unset, .unset, .unset, .unset] [(.int 2)])) rfl (hb hby at_48) rfl (by decide) (cap := 2) (by decide) (by decide) (by decide) (by decide)
    obtain ⟨b161, g161⟩ : ∃ z, z = h0.size := ⟨_, rfl⟩
    rw [← g161] at A161 st161
    have sz_b161 : h0.size ≤ b161 := Nat.le_trans K0.1 (Nat.le_of_eq g161.symm)
    have g_b161 : n0 ≤ b161 := Nat.le_trans Z0 sz_b161
    have O_162 := O_0.ext E161
    have K161 := K0.ext E161
    have V_163 : Arv Z h161 b161 k161 .int (2 : Int32) [(.int 0), (.int 0)] (.int 0) := (Arv.new A161 (by decide)).pad (pad_rep [] (.int 0) 2)
    refine Goes.on (fun t k => st161 t k) ?_
    show Goes p e below QQ (T161.setTop (mkF m 50 #[iv p1, iv p2, iv p3, iv p4, iv p5, iv 2, iv vv, .unset, .unset, .unset, .unset, .unset, .unset, .unset, .unset, .unset] [(.ref b161)]))
    refine Goes.on (fun t k => XS.dup X161.here hx rfl (hb hby at_50) rfl rfl k) ?_
    show Goes p e below QQ (T161.setTop (mkF m 51 #[iv p1, iv p2, iv p3, iv p4, iv p5, iv 2, iv vv, .unset, .unset, .unset, .unset, .unset, .unset, .unset, .unset, .unset] [(.ref b161), (.ref b161)]))
    refine Goes.on (fun t k => XS.iconst X161.here hx rfl (hb hby at_51) k) ?_
    show Goes p e below QQ (T161.setTop (mkF m 52 #[iv p1, iv p2, iv p3, iv p4, iv p5, iv 2, iv vv, .unset, .unset, .unset, .unset, .unset, .unset, .unset, .unset, .unset] [(.int 0), (.ref b161), (.ref b161)]))
    refine Goes.on (fun t k => XS.iloadN X161.here hx rfl (hb hby at_52) rfl k) ?_
    show Goes p e below QQ (T161.setTop (mkF m 53 #[iv p1, iv p2, iv p3, iv p4, iv p5, iv 2, iv vv, .unset, .unset, .unset, .unset, .unset, .unset, .unset, .unset, .unset] [(.int p1), (.int 0), (.ref b161), (.ref b161)]))
    obtain ⟨cl164, Ar164, aq164, aS164, aN164, aH164, aG164⟩ := id V_163
    have hin164 := inb_of (j := (0 : Int32)) aS164 ⟨by decide, by decide⟩
    obtain ⟨T165, h165, X165, e165, W165, st165⟩ := stI X161 hx hZ e161 Ar164 (j := (0 : Int32)) hin164 (g := (mkF m 53 #[iv p1, iv p2, iv p3, iv p4, iv p5, iv 2, iv vv, .unset, .unset, .unset, .unset, .unset, .unset, .unset, .unset, .unset] [(.int p1), (.int 0), (.ref b161), (.ref b161)])) rfl rfl (hb hby at_53)
    have O_166 := O_162.wr W165 g_b161
    have K165 := K161.wr W165 (Or.inr sz_b161)
    have N165 := Fr.snoc X165 N0 g_b161
    have V_167 : Arv Z h165 b161 k161 .int (2 : Int32) [(.int p1), (.int 0)] (.int 0) := Arv.set Ar164 aq164 aS164 aN164 aH164 aG164 rfl W165 0 rfl (Nat.le_of_ble_eq_true rfl)
    refine Goes.on (fun t k => st165 t k) ?_
    show Goes p e below QQ (T165.setTop (mkF m 54 #[iv p1, iv p2, iv p3, iv p4, iv p5, iv 2, iv vv, .unset, .unset, .unset, .unset, .unset, .unset, .unset, .unset, .unset] [(.ref b161)]))
    refine Goes.on (fun t k => XS.dup X165.here hx rfl (hb hby at_54) rfl rfl k) ?_
    show Goes p e below QQ (T165.setTop (mkF m 55 #[iv p1, iv p2, iv p3, iv p4, iv p5, iv 2, iv vv, .unset, .unset, .unset, .unset, .unset, .unset, .unset, .unset, .unset] [(.ref b161), (.ref b161)]))
    refine Goes.on (fun t k => XS.iconst X165.here hx rfl (hb hby at_55) k) ?_
    show Goes p e below QQ (T165.setTop (mkF m 56 #[iv p1, iv p2, iv p3, iv p4, iv p5, iv 2, iv vv, .unset, .unset, .unset, .unset, .unset, .unset, .unset, .unset, .unset] [(.int 1), (.ref b161), (.ref b161)]))
    refine Goes.on (fun t k => XS.iloadN X165.here hx rfl (hb hby at_56) rfl k) ?_
    show Goes p e below QQ (T165.setTop (mkF m 57 #[iv p1, iv p2, iv p3, iv p4, iv p5, iv 2, iv vv, .unset, .unset, .unset, .unset, .unset, .unset, .unset, .unset, .unset] [(.int p2), (.int 1), (.ref b161), (.ref b161)]))
    obtain ⟨cl168, Ar168, aq168, aS168, aN168, aH168, aG168⟩ := id V_167
    have hin168 := inb_of (j := (1 : Int32)) aS168 ⟨by decide, by decide⟩
    obtain ⟨T169, h169, X169, e169, W169, st169⟩ := stI X165 hx hZ e165 Ar168 (j := (1 : Int32)) hin168 (g := (mkF m 57 #[iv p1, iv p2, iv p3, iv p4, iv p5, iv 2, iv vv, .unset, .unset, .unset, .unset, .unset, .unset, .unset, .unset, .unset] [(.int p2), (.int 1), (.ref b161), (.ref b161)])) rfl rfl (hb hby at_57)
    have O_170 := O_166.wr W169 g_b161
    have K169 := K165.wr W169 (Or.inr sz_b161)
    have N169 := Fr.snoc X169 N165 g_b161
    have V_171 : Arv Z h169 b161 k161 .int (2 : Int32) [(.int p1), (.int p2)] (.int 0) := Arv.set Ar168 aq168 aS168 aN168 aH168 aG168 rfl W169 1 rfl (Nat.le_of_ble_eq_true rfl)
    refine Goes.on (fun t k => st169 t k) ?_
    show Goes p e below QQ (T169.setTop (mkF m 58 #[iv p1, iv p2, iv p3, iv p4, iv p5, iv 2, iv vv, .unset, .unset, .unset, .unset, .unset, .unset, .unset, .unset, .unset] [(.ref b161)]))
    refine Goes.on (fun t k => XS.goto X169.here hx rfl (pc0 := 58) (pc' := 76) rfl (hb hby at_58) (by decide) (by decide) k) ?_
    show Goes p e below QQ (T169.setTop (mkF m 76 #[iv p1, iv p2, iv p3, iv p4, iv p5, iv 2, iv vv, .unset, .unset, .unset, .unset, .unset, .unset, .unset, .unset, .unset] [(.ref b161)]))
    refine Goes.on (fun t k => XS.astore X169.here hx rfl (hb hby at_76) rfl rfl (l' := #[iv p1, iv p2, iv p3, iv p4, iv p5, iv 2, iv vv, rv b161, .unset, .unset, .unset, .unset, .unset, .unset, .unset, .unset]) rfl k) ?_
    show Goes p e below QQ (T169.setTop (mkF m 78 #[iv p1, iv p2, iv p3, iv p4, iv p5, iv 2, iv vv, rv b161, .unset, .unset, .unset, .unset, .unset, .unset, .unset, .unset] []))
    refine Goes.on (fun t k => XS.iconst X169.here hx rfl (hb hby at_78) k) ?_
    show Goes p e below QQ (T169.setTop (mkF m 79 #[iv p1, iv p2, iv p3, iv p4, iv p5, iv 2, iv vv, rv b161, .unset, .unset, .unset, .unset, .unset, .unset, .unset, .unset] [(.int 4)]))
    obtain ⟨T172, h172, k172, X172, e172, E172, A172, st172⟩ := newP X169 hx hZ (hw _ (List.mem_of_getElem? (i := 0) rfl)) e169 (g := (mkF m 79 #[iv p1, iv p2, iv p3, iv p4, iv p5, iv 2, iv vv, rv b161, .unset, .unset, .unset, .unset, .unset, .unset, .unset, .unset] [(.int 4)])) rfl (hb hby at_79) rfl (by decide) (cap := 4) (by decide) (by decide) (by decide) (by decide)
    obtain ⟨b172, g172⟩ : ∃ z, z = h169.size := ⟨_, rfl⟩
    rw [← g172] at A172 st172
    have sz_b172 : h0.size ≤ b172 := Nat.le_trans K169.1 (Nat.le_of_eq g172.symm)
    have g_b172 : n0 ≤ b172 := Nat.le_trans Z0 sz_b172
    have ne_b161_b172 : b161 ≠ b172 := Nat.ne_of_lt (Nat.lt_of_lt_of_le V_171.lt (Nat.le_of_eq g172.symm))
    have O_173 := O_170.ext E172
    have V_174 := V_171.ext E172
    have K172 := K169.ext E172
    have V_175 : Arv Z h172 b172 k172 .int (4 : Int32) [(.int 0), (.int 0), (.int 0), (.int 0)] (.int 0) := (Arv.new A172 (by decide)).pad (pad_rep [] (.int 0) 4)
    refine Goes.on (fun t k => st172 t k) ?_
    show Goes p e below QQ (T172.setTop (mkF m 81 #[iv p1, iv p2, iv p3, iv p4, iv p5, iv 2, iv vv, rv b161, .unset, .unset, .unset, .unset, .unset, .unset, .unset, .unset] [(.ref b172)]))
    refine Goes.on (fun t k => XS.dup X172.here hx rfl (hb hby at_81) rfl rfl k) ?_
    show Goes p e below QQ (T172.setTop (mkF m 82 #[iv p1, iv p2, iv p3, iv p4, iv p5, iv 2, iv vv, rv b161, .unset, .unset, .unset, .unset, .unset, .unset, .unset, .unset] [(.ref b172), (.ref b172)]))
    refine Goes.on (fun t k => XS.iconst X172.here hx rfl (hb hby at_82) k) ?_
    show Goes p e below QQ (T172.setTop (mkF m 83 #[iv p1, iv p2, iv p3, iv p4, iv p5, iv 2, iv vv, rv b161, .unset, .unset, .unset, .unset, .unset, .unset, .unset, .unset] [(.int 0), (.ref b172), (.ref b172)]))
    refine Goes.on (fun t k => XS.iloadN X172.here hx rfl (hb hby at_83) rfl k) ?_
    show Goes p e below QQ (T172.setTop (mkF m 84 #[iv p1, iv p2, iv p3, iv p4, iv p5, iv 2, iv vv, rv b161, .unset, .unset, .unset, .unset, .unset, .unset, .unset, .unset] [(.int p4), (.int 0), (.ref b172), (.ref b172)]))
    obtain ⟨cl176, Ar176, aq176, aS176, aN176, aH176, aG176⟩ := id V_175
    have hin176 := inb_of (j := (0 : Int32)) aS176 ⟨by decide, by decide⟩
    obtain ⟨T177, h177, X177, e177, W177, st177⟩ := stI X172 hx hZ e172 Ar176 (j := (0 : Int32)) hin176 (g := (mkF m 84 #[iv p1, iv p2, iv p3, iv p4, iv p5, iv 2, iv vv, rv b161, .unset, .unset, .unset, .unset, .unset, .unset, .unset, .unset] [(.int p4), (.int 0), (.ref b172), (.ref b172)])) rfl rfl (hb hby at_84)
    have O_178 := O_173.wr W177 g_b172
    have V_179 := V_174.other W177 ne_b161_b172
    have K177 := K172.wr W177 (Or.inr sz_b172)
    have N177 := Fr.snoc X177 N169 g_b172
    have V_180 : Arv Z h177 b172 k172 .int (4 : Int32) [(.int p4), (.int 0), (.int 0), (.int 0)] (.int 0) := Arv.set Ar176 aq176 aS176 aN176 aH176 aG176 rfl W177 0 rfl (Nat.le_of_ble_eq_true rfl)
    refine Goes.on (fun t k => st177 t k) ?_
    show Goes p e below QQ (T177.setTop (mkF m 85 #[iv p1, iv p2, iv p3, iv p4, iv p5, iv 2, iv vv, rv b161, .unset, .unset, .unset, .unset, .unset, .unset, .unset, .unset] [(.ref b172)]))
    refine Goes.on (fun t k => XS.dup X177.here hx rfl (hb hby at_85) rfl rfl k) ?_
    show Goes p e below QQ (T177.setTop (mkF m 86 #[iv p1, iv p2, iv p3, iv p4, iv p5, iv 2, iv vv, rv b161, .unset, .unset, .unset, .unset, .unset, .unset, .unset, .unset] [(.ref b172), (.ref b172)]))
    refine Goes.on (fun t k => XS.iconst X177.here hx rfl (hb hby at_86) k) ?_
    show Goes p e below QQ (T177.setTop (mkF m 87 #[iv p1, iv p2, iv p3, iv p4, iv p5, iv 2, iv vv, rv b161, .unset, .unset, .unset, .unset, .unset, .unset, .unset, .unset] [(.int 1), (.ref b172), (.ref b172)]))
    refine Goes.on (fun t k => XS.iloadN X177.here hx rfl (hb hby at_87) rfl k) ?_
    show Goes p e below QQ (T177.setTop (mkF m 88 #[iv p1, iv p2, iv p3, iv p4, iv p5, iv 2, iv vv, rv b161, .unset, .unset, .unset, .unset, .unset, .unset, .unset, .unset] [(.int p4), (.int 1), (.ref b172), (.ref b172)]))
    refine Goes.on (fun t k => XS.iconst X177.here hx rfl (hb hby at_88) k) ?_
    show Goes p e below QQ (T177.setTop (mkF m 89 #[iv p1, iv p2, iv p3, iv p4, iv p5, iv 2, iv vv, rv b161, .unset, .unset, .unset, .unset, .unset, .unset, .unset, .unset] [(.int 1), (.int p4), (.int 1), (.ref b172), (.ref b172)]))
    refine Goes.on (fun t k => XS.iadd X177.here hx rfl (hb hby at_89) rfl k) ?_
    show Goes p e below QQ (T177.setTop (mkF m 90 #[iv p1, iv p2, iv p3, iv p4, iv p5, iv 2, iv vv, rv b161, .unset, .unset, .unset, .unset, .unset, .unset, .unset, .unset] [(.int (p4 + (1 : Int32))), (.int 1), (.ref b172), (.ref b172)]))
    obtain ⟨cl181, Ar181, aq181, aS181, aN181, aH181, aG181⟩ := id V_180
    have hin181 := inb_of (j := (1 : Int32)) aS181 ⟨by decide, by decide⟩
    obtain ⟨T182, h182, X182, e182, W182, st182⟩ := stI X177 hx hZ e177 Ar181 (j := (1 : Int32)) hin181 (g := (mkF m 90 #[iv p1, iv p2, iv p3, iv p4, iv p5, iv 2, iv vv, rv b161, .unset, .unset, .unset, .unset, .unset, .unset, .unset, .unset] [(.int (p4 + (1 : Int32))), (.int 1), (.ref b172), (.ref b172)])) rfl rfl (hb hby at_90)
    have O_183 := O_178.wr W182 g_b172
    have V_184 := V_179.other W182 ne_b161_b172
    have K182 := K177.wr W182 (Or.inr sz_b172)
    have N182 := Fr.snoc X182 N177 g_b172
    have V_185 : Arv Z h182 b172 k172 .int (4 : Int32) [(.int p4), (.int (p4 + (1 : Int32))), (.int 0), (.int 0)] (.int 0) := Arv.set Ar181 aq181 aS181 aN181 aH181 aG181 rfl W182 1 rfl (Nat.le_of_ble_eq_true rfl)
    refine Goes.on (fun t k => st182 t k) ?_
    show Goes p e below QQ (T182.setTop (mkF m 91 #[iv p1, iv p2, iv p3, iv p4, iv p5, iv 2, iv vv, rv b161, .unset, .unset, .unset, .unset, .unset, .unset, .unset, .unset] [(.ref b172)]))
    refine Goes.on (fun t k => XS.dup X182.here hx rfl (hb hby at_91) rfl rfl k) ?_
    show Goes p e below QQ (T182.setTop (mkF m 92 #[iv p1, iv p2, iv p3, iv p4, iv p5, iv 2, iv vv, rv b161, .unset, .unset, .unset, .unset, .unset, .unset, .unset, .unset] [(.ref b172), (.ref b172)]))
    refine Goes.on (fun t k => XS.iconst X182.here hx rfl (hb hby at_92) k) ?_
    show Goes p e below QQ (T182.setTop (mkF m 93 #[iv p1, iv p2, iv p3, iv p4, iv p5, iv 2, iv vv, rv b161, .unset, .unset, .unset, .unset, .unset, .unset, .unset, .unset] [(.int 2), (.ref b172), (.ref b172)]))
    refine Goes.on (fun t k => XS.iloadN X182.here hx rfl (hb hby at_93) rfl k) ?_
    show Goes p e below QQ (T182.setTop (mkF m 94 #[iv p1, iv p2, iv p3, iv p4, iv p5, iv 2, iv vv, rv b161, .unset, .unset, .unset, .unset, .unset, .unset, .unset, .unset] [(.int p4), (.int 2), (.ref b172), (.ref b172)]))
    refine Goes.on (fun t k => XS.iconst X182.here hx rfl (hb hby at_94) k) ?_
    show Goes p e below QQ (T182.setTop (mkF m 95 #[iv p1, iv p2, iv p3, iv p4, iv p5, iv 2, iv vv, rv b161, .unset, .unset, .unset, .unset, .unset, .unset, .unset, .unset] [(.int 2), (.int p4), (.int 2), (.ref b172), (.ref b172)]))
    refine Goes.on (fun t k => XS.iadd X182.here hx rfl (hb hby at_95) rfl k) ?_
    show Goes p e below QQ (T182.setTop (mkF m 96 #[iv p1, iv p2, iv p3, iv p4, iv p5, iv 2, iv vv, rv b161, .unset, .unset, .unset, .unset, .unset, .unset, .unset, .unset] [(.int (p4 + (2 : Int32))), (.int 2), (.ref b172), (.ref b172)]))
    obtain ⟨cl186, Ar186, aq186, aS186, aN186, aH186, aG186⟩ := id V_185
    have hin186 := inb_of (j := (2 : Int32)) aS186 ⟨by decide, by decide⟩
    obtain ⟨T187, h187, X187, e187, W187, st187⟩ := stI X182 hx hZ e182 Ar186 (j := (2 : Int32)) hin186 (g := (mkF m 96 #[iv p1, iv p2, iv p3, iv p4, iv p5, iv 2, iv vv, rv b161, .unset, .unset, .unset, .unset, .unset, .unset, .unset, .unset] [(.int (p4 + (2 : Int32))), (.int 2), (.ref b172), (.ref b172)])) rfl rfl (hb hby at_96)
    have O_188 := O_183.wr W187 g_b172
    have V_189 := V_184.other W187 ne_b161_b172
    have K187 := K182.wr W187 (Or.inr sz_b172)
    have N187 := Fr.snoc X187 N182 g_b172
    have V_190 : Arv Z h187 b172 k172 .int (4 : Int32) [(.int p4), (.int (p4 + (1 : Int32))), (.int (p4 + (2 : Int32))), (.int 0)] (.int 0) := Arv.set Ar186 aq186 aS186 aN186 aH186 aG186 rfl W187 2 rfl (Nat.le_of_ble_eq_true rfl)
    refine Goes.on (fun t k => st187 t k) ?_
    show Goes p e below QQ (T187.setTop (mkF m 97 #[iv p1, iv p2, iv p3, iv p4, iv p5, iv 2, iv vv, rv b161, .unset, .unset, .unset, .unset, .unset, .unset, .unset, .unset] [(.ref b172)]))
    refine Goes.on (fun t k => XS.dup X187.here hx rfl (hb hby at_97) rfl rfl k) ?_
    show Goes p e below QQ (T187.setTop (mkF m 98 #[iv p1, iv p2, iv p3, iv p4, iv p5, iv 2, iv vv, rv b161, .unset, .unset, .unset, .unset, .unset, .unset, .unset, .unset] [(.ref b172), (.ref b172)]))
    refine Goes.on (fun t k => XS.iconst X187.here hx rfl (hb hby at_98) k) ?_
    show Goes p e below QQ (T187.setTop (mkF m 99 #[iv p1, iv p2, iv p3, iv p4, iv p5, iv 2, iv vv, rv b161, .unset, .unset, .unset, .unset, .unset, .unset, .unset, .unset] [(.int 3), (.ref b172), (.ref b172)]))
    refine Goes.on (fun t k => XS.iloadN X187.here hx rfl (hb hby at_99) rfl k) ?_
    show Goes p e below QQ (T187.setTop (mkF m 100 #[iv p1, iv p2, iv p3, iv p4, iv p5, iv 2, iv vv, rv b161, .unset, .unset, .unset, .unset, .unset, .unset, .unset, .unset] [(.int p4), (.int 3), (.ref b172), (.ref b172)]))
    refine Goes.on (fun t k => XS.iconst X187.here hx rfl (hb hby at_100) k) ?_
    show Goes p e below QQ (T187.setTop (mkF m 101 #[iv p1, iv p2, iv p3, iv p4, iv p5, iv 2, iv vv, rv b161, .unset, .unset, .unset, .unset, .unset, .unset, .unset, .unset] [(.int 3), (.int p4), (.int 3), (.ref b172), (.ref b172)]))
    refine Goes.on (fun t k => XS.iadd X187.here hx rfl (hb hby at_101) rfl k) ?_
    show Goes p e below QQ (T187.setTop (mkF m 102 #[iv p1, iv p2, iv p3, iv p4, iv p5, iv 2, iv vv, rv b161, .unset, .unset, .unset, .unset, .unset, .unset, .unset, .unset] [(.int (p4 + (3 : Int32))), (.int 3), (.ref b172), (.ref b172)]))
    obtain ⟨cl191, Ar191, aq191, aS191, aN191, aH191, aG191⟩ := id V_190
    have hin191 := inb_of (j := (3 : Int32)) aS191 ⟨by decide, by decide⟩
    obtain ⟨T192, h192, X192, e192, W192, st192⟩ := stI X187 hx hZ e187 Ar191 (j := (3 : Int32)) hin191 (g := (mkF m 102 #[iv p1, iv p2, iv p3, iv p4, iv p5, iv 2, iv vv, rv b161, .unset, .unset, .unset, .unset, .unset, .unset, .unset, .unset] [(.int (p4 + (3 : Int32))), (.int 3), (.ref b172), (.ref b172)])) rfl rfl (hb hby at_102)
    have O_193 := O_188.wr W192 g_b172
    have V_194 := V_189.other W192 ne_b161_b172
    have K192 := K187.wr W192 (Or.inr sz_b172)
    have N192 := Fr.snoc X192 N187 g_b172
    have V_195 : Arv Z h192 b172 k172 .int (4 : Int32) [(.int p4), (.int (p4 + (1 : Int32))), (.int (p4 + (2 : Int32))), (.int (p4 + (3 : Int32)))] (.int 0) := Arv.set Ar191 aq191 aS191 aN191 aH191 aG191 rfl W192 3 rfl (Nat.le_of_ble_eq_true rfl)
    refine Goes.on (fun t k => st192 t k) ?_
    show Goes p e below QQ (T192.setTop (mkF m 103 #[iv p1, iv p2, iv p3, iv p4, iv p5, iv 2, iv vv, rv b161, .unset, .unset, .unset, .unset, .unset, .unset, .unset, .unset] [(.ref b172)]))
    refine Goes.on (fun t k => XS.astore X192.here hx rfl (hb hby at_103) rfl rfl (l' := #[iv p1, iv p2, iv p3, iv p4, iv p5, iv 2, iv vv, rv b161, rv b172, .unset, .unset, .unset, .unset, .unset, .unset, .unset]) rfl k) ?_
    show Goes p e below QQ (T192.setTop (mkF m 105 #[iv p1, iv p2, iv p3, iv p4, iv p5, iv 2, iv vv, rv b161, rv b172, .unset, .unset, .unset, .unset, .unset, .unset, .unset] []))
    obtain ⟨rs0, hrs0⟩ : ∃ z : List Value, z = [(.int p4), (.int (p4 + (1 : Int32))), (.int (p4 + (2 : Int32))), (.int (p4 + (3 : Int32)))] := ⟨_, rfl⟩
    have V_196 := V_195
    rw [← hrs0] at V_196
    show Goes p e below QQ (T192.setTop (mkF m 105 #[iv p1, iv p2, iv p3, iv p4, iv p5, iv 2, iv vv, rv b161, rv b172, .unset, .unset, .unset, .unset, .unset, .unset, .unset] []))
    obtain ⟨T197, h197, X197, e197, E197, A197, D197, -, st197⟩ := newO X192 hx hZ hown (hw _ (List.mem_of_getElem? (i := 1) rfl)) (hw _ (List.mem_of_getElem? (i := 2) rfl)) (hw _ (List.mem_of_getElem? (i := 3) rfl)) e192 (g := (mkF m 105 #[iv p1, iv p2, iv p3, iv p4, iv p5, iv 2, iv vv, rv b161, rv b172, .unset, .unset, .unset, .unset, .unset, .unset, .unset] [])) rfl (hb hby at_105) (by decide) (by decide)
    obtain ⟨b197, g197⟩ : ∃ z, z = h192.size := ⟨_, rfl⟩
    rw [← g197] at A197 D197 st197
    have sz_b197 : h0.size ≤ b197 := Nat.le_trans K192.1 (Nat.le_of_eq g197.symm)
    have g_b197 : n0 ≤ b197 := Nat.le_trans Z0 sz_b197
    have ne_b161_b197 : b161 ≠ b197 := Nat.ne_of_lt (Nat.lt_of_lt_of_le V_194.lt (Nat.le_of_eq g197.symm))
    have ne_b172_b197 : b172 ≠ b197 := Nat.ne_of_lt (Nat.lt_of_lt_of_le V_196.lt (Nat.le_of_eq g197.symm))
    have O_198 := O_193.ext E197
    have V_199 := V_194.ext E197
    have V_200 := V_196.ext E197
    have K197 := K192.ext E197
    have F_201 : Fld Z h197 b197 "com/example/clew/clew/algebra/Step" "tests" "Ljava/util/List;" .null := D197 (Or.inr (hw _ (List.mem_of_getElem? (i := 40) rfl))) (ty := (.object "java/util/List")) (by decide)
    have F_202 : Fld Z h197 b197 "com/example/clew/clew/algebra/Step" "variables" "[I" .null := D197 (Or.inr (hw _ (List.mem_of_getElem? (i := 42) rfl))) (ty := (.array .int)) (by decide)
    have F_203 : Fld Z h197 b197 "com/example/clew/clew/algebra/Step$Members" "members" "[I" .null := D197 (Or.inr (hw _ (List.mem_of_getElem? (i := 44) rfl))) (ty := (.array .int)) (by decide)
    have F_204 : Fld Z h197 b197 "com/example/clew/clew/algebra/Step$Members" "variable" "I" (.int 0) := D197 (Or.inr (hw _ (List.mem_of_getElem? (i := 46) rfl))) (ty := .int) (by decide)
    have F_205 : Fld Z h197 b197 "com/example/clew/clew/algebra/Step$Members" "next" "I" (.int 0) := D197 (Or.inl (hw _ (List.mem_of_getElem? (i := 53) rfl))) (ty := .int) (by decide)
    have F_206 : Fld Z h197 b197 "com/example/clew/clew/algebra/Step$Members" "end" "I" (.int 0) := D197 (Or.inl (hw _ (List.mem_of_getElem? (i := 55) rfl))) (ty := .int) (by decide)
    have F_207 : Fld Z h197 b197 "com/example/clew/clew/algebra/Step$Members" "bound" "Z" (.int 0) := D197 (Or.inl (hw _ (List.mem_of_getElem? (i := 57) rfl))) (ty := .boolean) (by decide)
    refine Goes.on (fun t k => st197 t k) ?_
    show Goes p e below QQ (T197.setTop (mkF m 108 #[iv p1, iv p2, iv p3, iv p4, iv p5, iv 2, iv vv, rv b161, rv b172, .unset, .unset, .unset, .unset, .unset, .unset, .unset] [(.ref b197)]))
    refine Goes.on (fun t k => XS.dup X197.here hx rfl (hb hby at_108) rfl rfl k) ?_
    show Goes p e below QQ (T197.setTop (mkF m 109 #[iv p1, iv p2, iv p3, iv p4, iv p5, iv 2, iv vv, rv b161, rv b172, .unset, .unset, .unset, .unset, .unset, .unset, .unset] [(.ref b197), (.ref b197)]))
    refine Goes.on (fun t k => XS.aload X197.here hx rfl (hb hby at_109) rfl rfl k) ?_
    show Goes p e below QQ (T197.setTop (mkF m 111 #[iv p1, iv p2, iv p3, iv p4, iv p5, iv 2, iv vv, rv b161, rv b172, .unset, .unset, .unset, .unset, .unset, .unset, .unset] [(.ref b161), (.ref b197), (.ref b197)]))
    refine Goes.on (fun t k => XS.iload X197.here hx rfl (hb hby at_111) rfl k) ?_
    show Goes p e below QQ (T197.setTop (mkF m 113 #[iv p1, iv p2, iv p3, iv p4, iv p5, iv 2, iv vv, rv b161, rv b172, .unset, .unset, .unset, .unset, .unset, .unset, .unset] [(.int vv), (.ref b161), (.ref b197), (.ref b197)]))
    obtain ⟨_, _, ⟨T208, L208, k208, n208⟩, -, X208, ⟨Lc208, hQ208, l208, y208, z208⟩, st208⟩ := X197.specialBack hx (y := (⟨"com/example/clew/clew/algebra/Step$Members", "<init>", "([II)V"⟩ : MethodName)) rfl hown (mvT hZ (hw _ (List.mem_of_getElem? (i := 4) rfl))) (mvT hZ (hw _ (List.mem_of_getElem? (i := 5) rfl))) (mvT hZ (hw _ (List.mem_of_getElem? (i := 6) rfl))) (by decide) (backOf (W := 1) (rmMe l Z a0 hw [] b197 b161 vv xD h197 n0 (Nat.le_trans Z0 K197.1) A197 F_201 F_202 F_203 F_204 F_205 F_206 F_207 g_b197 S_DEFAULTCAPACITY_EMPTY_ELEMENTDATA O_198) hZ (hw _ (List.mem_of_getElem? (i := 6) rfl)) (hw _ (List.mem_of_getElem? (i := 3) rfl)) (by decide) (by decide)) (g := (mkF m 113 #[iv p1, iv p2, iv p3, iv p4, iv p5, iv 2, iv vv, rv b161, rv b172, .unset, .unset, .unset, .unset, .unset, .unset, .unset] [(.int vv), (.ref b161), (.ref b197), (.ref b197)])) rfl (by rw [hml]; rfl) (Steps.refl _) (a := b197) (argsL := [(.ref b161), (.int vv)]) (rest := [(.ref b197)]) (lenOf pd_4 rfl) rfl (by show 2 * 0 + _ ≤ _; exact Nat.le_of_eq rfl) (hb hby at_113) (fun _ _ => ⟨rfl, e197, (by decide : 3 + 2 ≤ _), (by decide : 13 + 4 ≤ _)⟩)
    dsimp only [Pt.U, Pt.locs, Pt.cells, Pt.slots] at X208 l208 y208 z208 st208 hQ208
    subst l208 y208 z208
    obtain ⟨rfl, M208, Kb1, ⟨members_m, variable_m, next_m, end_m, bound_m⟩⟩ := hQ208
    have N208 := Fr.app N192 M208
    refine Goes.on (fun t k => st208.trans k) ?_
    have O_209 := O_198.keep Kb1 (allS g_b197 all0)
    have V_210 := V_199.keep Kb1 (ninS ne_b161_b197 nin0)
    have V_211 := V_200.keep Kb1 (ninS ne_b172_b197 nin0)
    have A197_212 := A197.keep Kb1
    have K220 := K197.trans Kb1 (allS (Or.inr sz_b197) all0)
    show Goes p e below QQ (T208.setTop (mkF m 116 #[iv p1, iv p2, iv p3, iv p4, iv p5, iv 2, iv vv, rv b161, rv b172, .unset, .unset, .unset, .unset, .unset, .unset, .unset] [(.ref b197)]))
    refine Goes.on (fun t k => XS.astore X208.here hx rfl (hb hby at_116) rfl rfl (l' := #[iv p1, iv p2, iv p3, iv p4, iv p5, iv 2, iv vv, rv b161, rv b172, rv b197, .unset, .unset, .unset, .unset, .unset, .unset]) rfl k) ?_
    show Goes p e below QQ (T208.setTop (mkF m 118 #[iv p1, iv p2, iv p3, iv p4, iv p5, iv 2, iv vv, rv b161, rv b172, rv b197, .unset, .unset, .unset, .unset, .unset, .unset] []))
    refine Goes.on (fun t k => XS.aload X208.here hx rfl (hb hby at_118) rfl rfl k) ?_
    show Goes p e below QQ (T208.setTop (mkF m 120 #[iv p1, iv p2, iv p3, iv p4, iv p5, iv 2, iv vv, rv b161, rv b172, rv b197, .unset, .unset, .unset, .unset, .unset, .unset] [(.ref b197)]))
    refine Goes.on (fun t k => XS.aload X208.here hx rfl (hb hby at_120) rfl rfl k) ?_
    show Goes p e below QQ (T208.setTop (mkF m 122 #[iv p1, iv p2, iv p3, iv p4, iv p5, iv 2, iv vv, rv b161, rv b172, rv b197, .unset, .unset, .unset, .unset, .unset, .unset] [(.ref b172), (.ref b197)]))
    obtain ⟨cq221, kq221, q221a, q221b, q221c⟩ := isOf hZ rfl A197_212
    obtain ⟨_, _, ⟨T221, L221, k221, n221⟩, -, X221, ⟨Lc221, hQ221, l221, y221, z221⟩, st221⟩ := X208.virtualBack hx (y := (⟨"com/example/clew/clew/algebra/Step$Members", "start", "([I)V"⟩ : MethodName)) (z := (⟨"com/example/clew/clew/algebra/Step$Members", "start", "([I)V"⟩ : MethodName)) hown (mvT hZ (hw _ (List.mem_of_getElem? (i := 47) rfl))) (mvT hZ (hw _ (List.mem_of_getElem? (i := 48) rfl))) (notFace_of_selects (args := #[]) (mvT hZ (hw _ (List.mem_of_getElem? (i := 50) rfl)))) (mvT hZ (hw _ (List.mem_of_getElem? (i := 50) rfl))) (mvT hZ (hw _ (List.mem_of_getElem? (i := 49) rfl))) (by decide) (backOf (W := 0) (rmSa l Z a0 hw [] b197 b172 b161 vv k161 (2 : Int32) [(.int p1), (.int p2)] T208.heap n0 (Nat.le_trans Z0 K220.1) A197_212 members_m variable_m next_m end_m bound_m V_210 g_b197 ne_b161_b197) hZ (hw _ (List.mem_of_getElem? (i := 51) rfl)) (hw _ (List.mem_of_getElem? (i := 3) rfl)) (by decide) (by decide)) q221a q221c (g := (mkF m 122 #[iv p1, iv p2, iv p3, iv p4, iv p5, iv 2, iv vv, rv b161, rv b172, rv b197, .unset, .unset, .unset, .unset, .unset, .unset] [(.ref b172), (.ref b197)])) rfl (by rw [hml]; rfl) (Steps.refl _) (argsL := [(.ref b172)]) (rest := []) (lenOf pd_1 rfl) rfl (by show 2 * 0 + _ ≤ _; exact Nat.le_of_eq rfl) (hb hby at_122) (fun _ _ => ⟨rfl, rfl, (by decide : 5 + 0 ≤ _), (by decide : 17 + 0 ≤ _)⟩)
    dsimp only [Pt.U, Pt.locs, Pt.cells, Pt.slots] at X221 l221 y221 z221 st221 hQ221
    subst l221 y221 z221
    obtain ⟨rfl, M221, Kb2, ⟨members_t, variable_t, next_t, end_t, bound_t⟩⟩ := hQ221
    have N221 := Fr.app N208 M221
    refine Goes.on (fun t k => st221.trans k) ?_
    have O_222 := O_209.keep Kb2 (allS g_b197 all0)
    have V_223 := V_210.keep Kb2 (ninS ne_b161_b197 nin0)
    have V_224 := V_211.keep Kb2 (ninS ne_b172_b197 nin0)
    have A197_225 := A197_212.keep Kb2
    have K231 := K220.trans Kb2 (allS (Or.inr sz_b197) all0)
    show Goes p e below QQ (T221.setTop (mkF m 125 #[iv p1, iv p2, iv p3, iv p4, iv p5, iv 2, iv vv, rv b161, rv b172, rv b197, .unset, .unset, .unset, .unset, .unset, .unset] []))
    refine Goes.on (fun t k => XS.iconst X221.here hx rfl (hb hby at_125) k) ?_
    show Goes p e below QQ (T221.setTop (mkF m 126 #[iv p1, iv p2, iv p3, iv p4, iv p5, iv 2, iv vv, rv b161, rv b172, rv b197, .unset, .unset, .unset, .unset, .unset, .unset] [(.int 1)]))
    refine Goes.on (fun t k => XS.istore X221.here hx rfl (hb hby at_126) rfl (l' := #[iv p1, iv p2, iv p3, iv p4, iv p5, iv 2, iv vv, rv b161, rv b172, rv b197, iv 1, .unset, .unset, .unset, .unset, .unset]) rfl k) ?_
    show Goes p e below QQ (T221.setTop (mkF m 128 #[iv p1, iv p2, iv p3, iv p4, iv p5, iv 2, iv vv, rv b161, rv b172, rv b197, iv 1, .unset, .unset, .unset, .unset, .unset] []))
    refine Goes.on (fun t k => XS.aload X221.here hx rfl (hb hby at_128) rfl rfl k) ?_
    show Goes p e below QQ (T221.setTop (mkF m 130 #[iv p1, iv p2, iv p3, iv p4, iv p5, iv 2, iv vv, rv b161, rv b172, rv b197, iv 1, .unset, .unset, .unset, .unset, .unset] [(.ref b197)]))
    refine Goes.on (fun t k => XS.aload X221.here hx rfl (hb hby at_130) rfl rfl k) ?_
    show Goes p e below QQ (T221.setTop (mkF m 132 #[iv p1, iv p2, iv p3, iv p4, iv p5, iv 2, iv vv, rv b161, rv b172, rv b197, iv 1, .unset, .unset, .unset, .unset, .unset] [(.ref b172), (.ref b197)]))
    obtain ⟨cq232, kq232, q232a, q232b, q232c⟩ := isOf hZ rfl A197_225
    obtain ⟨_, _, ⟨T232, L232, k232, n232⟩, -, X232, ⟨Lc232, hQ232, l232, y232, z232⟩, st232⟩ := X221.virtualBack hx (y := (⟨"com/example/clew/clew/algebra/Step$Members", "advance", "([I)Z"⟩ : MethodName)) (z := (⟨"com/example/clew/clew/algebra/Step$Members", "advance", "([I)Z"⟩ : MethodName)) hown (mvT hZ (hw _ (List.mem_of_getElem? (i := 58) rfl))) (mvT hZ (hw _ (List.mem_of_getElem? (i := 59) rfl))) (notFace_of_selects (args := #[]) (mvT hZ (hw _ (List.mem_of_getElem? (i := 61) rfl)))) (mvT hZ (hw _ (List.mem_of_getElem? (i := 61) rfl))) (mvT hZ (hw _ (List.mem_of_getElem? (i := 60) rfl))) (by decide) (backOf (W := 0) (rmYe l Z a0 hw [] b197 b172 b161 (0 : Int32) (2 : Int32) vv k161 (2 : Int32) [(.int p1), (.int p2)] k172 rs0 p1 T221.heap n0 (Nat.le_trans Z0 K231.1) A197_225 members_t variable_t next_t end_t bound_t V_223 V_224 g_b197 g_b172 ne_b161_b197 ne_b161_b172 (Ne.symm ne_b172_b197) (by decide) ⟨by decide, by decide⟩ rfl (by rcases hv4 with rfl | rfl | rfl | rfl <;> exact ⟨by decide, by decide⟩) (by subst hrs0; rcases hv4 with rfl | rfl | rfl | rfl <;> exact Nat.le_of_ble_eq_true rfl)) hZ (hw _ (List.mem_of_getElem? (i := 62) rfl)) (hw _ (List.mem_of_getElem? (i := 3) rfl)) (by decide) (by decide)) q232a q232c (g := (mkF m 132 #[iv p1, iv p2, iv p3, iv p4, iv p5, iv 2, iv vv, rv b161, rv b172, rv b197, iv 1, .unset, .unset, .unset, .unset, .unset] [(.ref b172), (.ref b197)])) rfl (by rw [hml]; rfl) (Steps.refl _) (argsL := [(.ref b172)]) (rest := []) (lenOf pd_5 rfl) rfl (by show 2 * 0 + _ ≤ _; exact Nat.le_of_eq rfl) (hb hby at_132) (fun _ _ => ⟨rfl, rfl, (by decide : 5 + 0 ≤ _), (by decide : 17 + 0 ≤ _)⟩)
    dsimp only [Pt.U, Pt.locs, Pt.cells, Pt.slots] at X232 l232 y232 z232 st232 hQ232
    subst l232 y232 z232
    obtain ⟨rfl, M232, Kcy0, ⟨members_y0, variable_y0, next_y0, end_y0, bound_y0⟩, Vry0⟩ := hQ232
    have N232 := Fr.app N221 M232
    refine Goes.on (fun t k => st232.trans k) ?_
    have O_233 := O_222.keep Kcy0 (allS g_b197 (allS g_b172 all0))
    have V_234 := V_223.keep Kcy0 (ninS ne_b161_b197 (ninS ne_b161_b172 nin0))
    have A197_236 := A197_225.keep Kcy0
    have K242 := K231.trans Kcy0 (allS (Or.inr sz_b197) (allS (Or.inr sz_b172) all0))
    show Goes p e below QQ (T232.setTop (mkF m 135 #[iv p1, iv p2, iv p3, iv p4, iv p5, iv 2, iv vv, rv b161, rv b172, rv b197, iv 1, .unset, .unset, .unset, .unset, .unset] [(.int 1)]))
    rw [(by decide : ((0 : Int32) + (1 : Int32)) = (1 : Int32))] at next_y0
    show Goes p e below QQ (T232.setTop (mkF m 135 #[iv p1, iv p2, iv p3, iv p4, iv p5, iv 2, iv vv, rv b161, rv b172, rv b197, iv 1, .unset, .unset, .unset, .unset, .unset] [(.int 1)]))
    refine Goes.on (fun t k => XS.istore X232.here hx rfl (hb hby at_135) rfl (l' := #[iv p1, iv p2, iv p3, iv p4, iv p5, iv 2, iv vv, rv b161, rv b172, rv b197, iv 1, iv 1, .unset, .unset, .unset, .unset]) rfl k) ?_
    show Goes p e below QQ (T232.setTop (mkF m 137 #[iv p1, iv p2, iv p3, iv p4, iv p5, iv 2, iv vv, rv b161, rv b172, rv b197, iv 1, iv 1, .unset, .unset, .unset, .unset] []))
    refine Goes.on (fun t k => XS.iload X232.here hx rfl (hb hby at_137) rfl k) ?_
    show Goes p e below QQ (T232.setTop (mkF m 139 #[iv p1, iv p2, iv p3, iv p4, iv p5, iv 2, iv vv, rv b161, rv b172, rv b197, iv 1, iv 1, .unset, .unset, .unset, .unset] [(.int 1)]))
    refine Goes.on (fun t k => XS.ifNo X232.here hx rfl (hb hby at_139) rfl ((if0 _ _).trans (feq (by decide)).1) k) ?_
    show Goes p e below QQ (T232.setTop (mkF m 142 #[iv p1, iv p2, iv p3, iv p4, iv p5, iv 2, iv vv, rv b161, rv b172, rv b197, iv 1, iv 1, .unset, .unset, .unset, .unset] []))
    refine Goes.on (fun t k => XS.iload X232.here hx rfl (hb hby at_142) rfl k) ?_
    show Goes p e below QQ (T232.setTop (mkF m 144 #[iv p1, iv p2, iv p3, iv p4, iv p5, iv 2, iv vv, rv b161, rv b172, rv b197, iv 1, iv 1, .unset, .unset, .unset, .unset] [(.int 1)]))
    refine Goes.on (fun t k => XS.aload X232.here hx rfl (hb hby at_144) rfl rfl k) ?_
    show Goes p e below QQ (T232.setTop (mkF m 146 #[iv p1, iv p2, iv p3, iv p4, iv p5, iv 2, iv vv, rv b161, rv b172, rv b197, iv 1, iv 1, .unset, .unset, .unset, .unset] [(.ref b172), (.int 1)]))
    refine Goes.on (fun t k => XS.iconst X232.here hx rfl (hb hby at_146) k) ?_
    show Goes p e below QQ (T232.setTop (mkF m 147 #[iv p1, iv p2, iv p3, iv p4, iv p5, iv 2, iv vv, rv b161, rv b172, rv b197, iv 1, iv 1, .unset, .unset, .unset, .unset] [(.int 0), (.ref b172), (.int 1)]))
    refine Goes.on (fun t k => XS.iload X232.here hx rfl (hb hby at_147) rfl k) ?_
    show Goes p e below QQ (T232.setTop (mkF m 149 #[iv p1, iv p2, iv p3, iv p4, iv p5, iv 2, iv vv, rv b161, rv b172, rv b197, iv 1, iv 1, .unset, .unset, .unset, .unset] [(.int 2), (.int 0), (.ref b172), (.int 1)]))
    refine Goes.on (fun t k => XS.iload X232.here hx rfl (hb hby at_149) rfl k) ?_
    show Goes p e below QQ (T232.setTop (mkF m 151 #[iv p1, iv p2, iv p3, iv p4, iv p5, iv 2, iv vv, rv b161, rv b172, rv b197, iv 1, iv 1, .unset, .unset, .unset, .unset] [(.int vv), (.int 2), (.int 0), (.ref b172), (.int 1)]))
    refine Goes.on (fun t k => XS.iloadN X232.here hx rfl (hb hby at_151) rfl k) ?_
    show Goes p e below QQ (T232.setTop (mkF m 152 #[iv p1, iv p2, iv p3, iv p4, iv p5, iv 2, iv vv, rv b161, rv b172, rv b197, iv 1, iv 1, .unset, .unset, .unset, .unset] [(.int p1), (.int vv), (.int 2), (.int 0), (.ref b172), (.int 1)]))
    refine Goes.on (fun t k => XS.iloadN X232.here hx rfl (hb hby at_152) rfl k) ?_
    show Goes p e below QQ (T232.setTop (mkF m 153 #[iv p1, iv p2, iv p3, iv p4, iv p5, iv 2, iv vv, rv b161, rv b172, rv b197, iv 1, iv 1, .unset, .unset, .unset, .unset] [(.int p2), (.int p1), (.int vv), (.int 2), (.int 0), (.ref b172), (.int 1)]))
    refine Goes.on (fun t k => XS.iloadN X232.here hx rfl (hb hby at_153) rfl k) ?_
    show Goes p e below QQ (T232.setTop (mkF m 154 #[iv p1, iv p2, iv p3, iv p4, iv p5, iv 2, iv vv, rv b161, rv b172, rv b197, iv 1, iv 1, .unset, .unset, .unset, .unset] [(.int p3), (.int p2), (.int p1), (.int vv), (.int 2), (.int 0), (.ref b172), (.int 1)]))
    refine Goes.on (fun t k => XS.iloadN X232.here hx rfl (hb hby at_154) rfl k) ?_
    show Goes p e below QQ (T232.setTop (mkF m 155 #[iv p1, iv p2, iv p3, iv p4, iv p5, iv 2, iv vv, rv b161, rv b172, rv b197, iv 1, iv 1, .unset, .unset, .unset, .unset] [(.int p4), (.int p3), (.int p2), (.int p1), (.int vv), (.int 2), (.int 0), (.ref b172), (.int 1)]))
    have Vq155 : Arv Z T232.heap b172 k172 .int (4 : Int32) ([(.int p4), (.int (p4 + (1 : Int32))), (.int (p4 + (2 : Int32))), (.int (p4 + (3 : Int32)))].set vv.toNatClampNeg (.int p1)) (.int (0 : Int32)) := (hrs0 ▸ Vry0)
    obtain ⟨_, _, ⟨T243, L243, k243, n243⟩, -, X243, ⟨Lc243, hQ243, l243, y243, z243⟩, st243⟩ := Jvm.LawKit.callS X232 hx (y := (⟨"com/example/clew/clew/algebra/MembersAdvancePinLaw", "stepOk", "(Z[IIIIIIII)Z"⟩ : MethodName)) hown (mvT hZ (hw _ (List.mem_of_getElem? (i := 63) rfl))) (mvT hZ (hw _ (List.mem_of_getElem? (i := 64) rfl))) (mvT hZ (hw _ (List.mem_of_getElem? (i := 65) rfl))) (mvT hZ (hw _ (List.mem_of_getElem? (i := 66) rfl))) (by decide) (backOf (W := 0) (rmSO l Z a0 hw [] (1 : Int32) b172 (0 : Int32) (2 : Int32) vv p1 p2 p3 p4 k172 p1 T232.heap n0 (Nat.le_trans Z0 K242.1) Vq155 hv4 (by decide) (by first | rfl | simp [expF])) hZ (hw _ (List.mem_of_getElem? (i := 66) rfl)) (hw _ (List.mem_of_getElem? (i := 65) rfl)) (by decide) (by decide)) (g := (mkF m 155 #[iv p1, iv p2, iv p3, iv p4, iv p5, iv 2, iv vv, rv b161, rv b172, rv b197, iv 1, iv 1, .unset, .unset, .unset, .unset] [(.int p4), (.int p3), (.int p2), (.int p1), (.int vv), (.int 2), (.int 0), (.ref b172), (.int 1)])) rfl (by rw [hml]; rfl) (argsL := [(.int 1), (.ref b172), (.int 0), (.int 2), (.int vv), (.int p1), (.int p2), (.int p3), (.int p4)]) (rest := []) (lenOf pd_6 rfl) rfl (by show 2 * 0 + _ ≤ _; exact Nat.le_of_eq rfl) (hb hby at_155) (fun _ _ => ⟨rfl, rfl, (by decide : 5 + 0 ≤ _), (by decide : 17 + 0 ≤ _)⟩)
    dsimp only [Pt.U, Pt.locs, Pt.cells, Pt.slots] at X243 l243 y243 z243 st243 hQ243
    subst l243 y243 z243
    obtain ⟨rfl, M243, e243⟩ := hQ243
    have N243 := Fr.app N232 M243
    refine Goes.on (fun t k => st243 _ k) ?_
    show Goes p e below QQ (T243.setTop (mkF m 158 #[iv p1, iv p2, iv p3, iv p4, iv p5, iv 2, iv vv, rv b161, rv b172, rv b197, iv 1, iv 1, .unset, .unset, .unset, .unset] [(.int 1)]))
    refine Goes.on (fun t k => XS.ifNo X243.here hx rfl (hb hby at_158) rfl ((if0 _ _).trans (feq (by decide)).1) k) ?_
    show Goes p e below QQ (T243.setTop (mkF m 161 #[iv p1, iv p2, iv p3, iv p4, iv p5, iv 2, iv vv, rv b161, rv b172, rv b197, iv 1, iv 1, .unset, .unset, .unset, .unset] []))
    refine Goes.on (fun t k => XS.iconst X243.here hx rfl (hb hby at_161) k) ?_
    show Goes p e below QQ (T243.setTop (mkF m 162 #[iv p1, iv p2, iv p3, iv p4, iv p5, iv 2, iv vv, rv b161, rv b172, rv b197, iv 1, iv 1, .unset, .unset, .unset, .unset] [(.int 1)]))
    refine Goes.on (fun t k => XS.goto X243.here hx rfl (pc0 := 162) (pc' := 166) rfl (hb hby at_162) (by decide) (by decide) k) ?_
    show Goes p e below QQ (T243.setTop (mkF m 166 #[iv p1, iv p2, iv p3, iv p4, iv p5, iv 2, iv vv, rv b161, rv b172, rv b197, iv 1, iv 1, .unset, .unset, .unset, .unset] [(.int 1)]))
    refine Goes.on (fun t k => XS.istore X243.here hx rfl (hb hby at_166) rfl (l' := #[iv p1, iv p2, iv p3, iv p4, iv p5, iv 2, iv vv, rv b161, rv b172, rv b197, iv 1, iv 1, .unset, .unset, .unset, .unset]) rfl k) ?_
    show Goes p e below QQ (T243.setTop (mkF m 168 #[iv p1, iv p2, iv p3, iv p4, iv p5, iv 2, iv vv, rv b161, rv b172, rv b197, iv 1, iv 1, .unset, .unset, .unset, .unset] []))
    refine Goes.on (fun t k => XS.aload X243.here hx rfl (hb hby at_168) rfl rfl k) ?_
    show Goes p e below QQ (T243.setTop (mkF m 170 #[iv p1, iv p2, iv p3, iv p4, iv p5, iv 2, iv vv, rv b161, rv b172, rv b197, iv 1, iv 1, .unset, .unset, .unset, .unset] [(.ref b197)]))
    refine Goes.on (fun t k => XS.aload X243.here hx rfl (hb hby at_170) rfl rfl k) ?_
    show Goes p e below QQ (T243.setTop (mkF m 172 #[iv p1, iv p2, iv p3, iv p4, iv p5, iv 2, iv vv, rv b161, rv b172, rv b197, iv 1, iv 1, .unset, .unset, .unset, .unset] [(.ref b172), (.ref b197)]))
    obtain ⟨cq244, kq244, q244a, q244b, q244c⟩ := isOf hZ e243 A197_236
    obtain ⟨_, _, ⟨T244, L244, k244, n244⟩, -, X244, ⟨Lc244, hQ244, l244, y244, z244⟩, st244⟩ := X243.virtualBack hx (y := (⟨"com/example/clew/clew/algebra/Step$Members", "advance", "([I)Z"⟩ : MethodName)) (z := (⟨"com/example/clew/clew/algebra/Step$Members", "advance", "([I)Z"⟩ : MethodName)) hown (mvT hZ (hw _ (List.mem_of_getElem? (i := 58) rfl))) (mvT hZ (hw _ (List.mem_of_getElem? (i := 59) rfl))) (notFace_of_selects (args := #[]) (mvT hZ (hw _ (List.mem_of_getElem? (i := 61) rfl)))) (mvT hZ (hw _ (List.mem_of_getElem? (i := 61) rfl))) (mvT hZ (hw _ (List.mem_of_getElem? (i := 60) rfl))) (by decide) (backOf (W := 0) (rmYe l Z a0 hw [] b197 b172 b161 (1 : Int32) (2 : Int32) vv k161 (2 : Int32) [(.int p1), (.int p2)] k172 (rs0.set vv.toNatClampNeg (.int p1)) p2 T232.heap n0 (Nat.le_trans Z0 K242.1) A197_236 members_y0 variable_y0 next_y0 end_y0 bound_y0 V_234 Vry0 g_b197 g_b172 ne_b161_b197 ne_b161_b172 (Ne.symm ne_b172_b197) (by decide) ⟨by decide, by decide⟩ rfl (by rcases hv4 with rfl | rfl | rfl | rfl <;> exact ⟨by decide, by decide⟩) (by subst hrs0; rcases hv4 with rfl | rfl | rfl | rfl <;> exact Nat.le_of_ble_eq_true rfl)) hZ (hw _ (List.mem_of_getElem? (i := 62) rfl)) (hw _ (List.mem_of_getElem? (i := 3) rfl)) (by decide) (by decide)) q244a q244c (g := (mkF m 172 #[iv p1, iv p2, iv p3, iv p4, iv p5, iv 2, iv vv, rv b161, rv b172, rv b197, iv 1, iv 1, .unset, .unset, .unset, .unset] [(.ref b172), (.ref b197)])) rfl (by rw [hml]; rfl) (Steps.refl _) (argsL := [(.ref b172)]) (rest := []) (lenOf pd_5 rfl) rfl (by show 2 * 0 + _ ≤ _; exact Nat.le_of_eq rfl) (hb hby at_172) (fun _ _ => ⟨rfl, e243, (by decide : 5 + 0 ≤ _), (by decide : 17 + 0 ≤ _)⟩)
    dsimp only [Pt.U, Pt.locs, Pt.cells, Pt.slots] at X244 l244 y244 z244 st244 hQ244
    subst l244 y244 z244
    obtain ⟨rfl, M244, Kcy1, ⟨members_y1, variable_y1, next_y1, end_y1, bound_y1⟩, Vry1⟩ := hQ244
    have N244 := Fr.app N243 M244
    refine Goes.on (fun t k => st244.trans k) ?_
    have O_245 := O_233.keep Kcy1 (allS g_b197 (allS g_b172 all0))
    have V_246 := V_234.keep Kcy1 (ninS ne_b161_b197 (ninS ne_b161_b172 nin0))
    have A197_247 := A197_236.keep Kcy1
    have K254 := K242.trans Kcy1 (allS (Or.inr sz_b197) (allS (Or.inr sz_b172) all0))
    show Goes p e below QQ (T244.setTop (mkF m 175 #[iv p1, iv p2, iv p3, iv p4, iv p5, iv 2, iv vv, rv b161, rv b172, rv b197, iv 1, iv 1, .unset, .unset, .unset, .unset] [(.int 1)]))
    rw [(by decide : ((1 : Int32) + (1 : Int32)) = (2 : Int32))] at next_y1
    rw [List.set_set] at Vry1
    show Goes p e below QQ (T244.setTop (mkF m 175 #[iv p1, iv p2, iv p3, iv p4, iv p5, iv 2, iv vv, rv b161, rv b172, rv b197, iv 1, iv 1, .unset, .unset, .unset, .unset] [(.int 1)]))
    refine Goes.on (fun t k => XS.istore X244.here hx rfl (hb hby at_175) rfl (l' := #[iv p1, iv p2, iv p3, iv p4, iv p5, iv 2, iv vv, rv b161, rv b172, rv b197, iv 1, iv 1, iv 1, .unset, .unset, .unset]) rfl k) ?_
    show Goes p e below QQ (T244.setTop (mkF m 177 #[iv p1, iv p2, iv p3, iv p4, iv p5, iv 2, iv vv, rv b161, rv b172, rv b197, iv 1, iv 1, iv 1, .unset, .unset, .unset] []))
    refine Goes.on (fun t k => XS.iload X244.here hx rfl (hb hby at_177) rfl k) ?_
    show Goes p e below QQ (T244.setTop (mkF m 179 #[iv p1, iv p2, iv p3, iv p4, iv p5, iv 2, iv vv, rv b161, rv b172, rv b197, iv 1, iv 1, iv 1, .unset, .unset, .unset] [(.int 1)]))
    refine Goes.on (fun t k => XS.ifNo X244.here hx rfl (hb hby at_179) rfl ((if0 _ _).trans (feq (by decide)).1) k) ?_
    show Goes p e below QQ (T244.setTop (mkF m 182 #[iv p1, iv p2, iv p3, iv p4, iv p5, iv 2, iv vv, rv b161, rv b172, rv b197, iv 1, iv 1, iv 1, .unset, .unset, .unset] []))
    refine Goes.on (fun t k => XS.iload X244.here hx rfl (hb hby at_182) rfl k) ?_
    show Goes p e below QQ (T244.setTop (mkF m 184 #[iv p1, iv p2, iv p3, iv p4, iv p5, iv 2, iv vv, rv b161, rv b172, rv b197, iv 1, iv 1, iv 1, .unset, .unset, .unset] [(.int 1)]))
    refine Goes.on (fun t k => XS.aload X244.here hx rfl (hb hby at_184) rfl rfl k) ?_
    show Goes p e below QQ (T244.setTop (mkF m 186 #[iv p1, iv p2, iv p3, iv p4, iv p5, iv 2, iv vv, rv b161, rv b172, rv b197, iv 1, iv 1, iv 1, .unset, .unset, .unset] [(.ref b172), (.int 1)]))
    refine Goes.on (fun t k => XS.iconst X244.here hx rfl (hb hby at_186) k) ?_
    show Goes p e below QQ (T244.setTop (mkF m 187 #[iv p1, iv p2, iv p3, iv p4, iv p5, iv 2, iv vv, rv b161, rv b172, rv b197, iv 1, iv 1, iv 1, .unset, .unset, .unset] [(.int 1), (.ref b172), (.int 1)]))
    refine Goes.on (fun t k => XS.iload X244.here hx rfl (hb hby at_187) rfl k) ?_
    show Goes p e below QQ (T244.setTop (mkF m 189 #[iv p1, iv p2, iv p3, iv p4, iv p5, iv 2, iv vv, rv b161, rv b172, rv b197, iv 1, iv 1, iv 1, .unset, .unset, .unset] [(.int 2), (.int 1), (.ref b172), (.int 1)]))
    refine Goes.on (fun t k => XS.iload X244.here hx rfl (hb hby at_189) rfl k) ?_
    show Goes p e below QQ (T244.setTop (mkF m 191 #[iv p1, iv p2, iv p3, iv p4, iv p5, iv 2, iv vv, rv b161, rv b172, rv b197, iv 1, iv 1, iv 1, .unset, .unset, .unset] [(.int vv), (.int 2), (.int 1), (.ref b172), (.int 1)]))
    refine Goes.on (fun t k => XS.iloadN X244.here hx rfl (hb hby at_191) rfl k) ?_
    show Goes p e below QQ (T244.setTop (mkF m 192 #[iv p1, iv p2, iv p3, iv p4, iv p5, iv 2, iv vv, rv b161, rv b172, rv b197, iv 1, iv 1, iv 1, .unset, .unset, .unset] [(.int p1), (.int vv), (.int 2), (.int 1), (.ref b172), (.int 1)]))
    refine Goes.on (fun t k => XS.iloadN X244.here hx rfl (hb hby at_192) rfl k) ?_
    show Goes p e below QQ (T244.setTop (mkF m 193 #[iv p1, iv p2, iv p3, iv p4, iv p5, iv 2, iv vv, rv b161, rv b172, rv b197, iv 1, iv 1, iv 1, .unset, .unset, .unset] [(.int p2), (.int p1), (.int vv), (.int 2), (.int 1), (.ref b172), (.int 1)]))
    refine Goes.on (fun t k => XS.iloadN X244.here hx rfl (hb hby at_193) rfl k) ?_
    show Goes p e below QQ (T244.setTop (mkF m 194 #[iv p1, iv p2, iv p3, iv p4, iv p5, iv 2, iv vv, rv b161, rv b172, rv b197, iv 1, iv 1, iv 1, .unset, .unset, .unset] [(.int p3), (.int p2), (.int p1), (.int vv), (.int 2), (.int 1), (.ref b172), (.int 1)]))
    refine Goes.on (fun t k => XS.iloadN X244.here hx rfl (hb hby at_194) rfl k) ?_
    show Goes p e below QQ (T244.setTop (mkF m 195 #[iv p1, iv p2, iv p3, iv p4, iv p5, iv 2, iv vv, rv b161, rv b172, rv b197, iv 1, iv 1, iv 1, .unset, .unset, .unset] [(.int p4), (.int p3), (.int p2), (.int p1), (.int vv), (.int 2), (.int 1), (.ref b172), (.int 1)]))
    have Vq195 : Arv Z T244.heap b172 k172 .int (4 : Int32) ([(.int p4), (.int (p4 + (1 : Int32))), (.int (p4 + (2 : Int32))), (.int (p4 + (3 : Int32)))].set vv.toNatClampNeg (.int p2)) (.int (0 : Int32)) := (hrs0 ▸ Vry1)
    obtain ⟨_, _, ⟨T255, L255, k255, n255⟩, -, X255, ⟨Lc255, hQ255, l255, y255, z255⟩, st255⟩ := Jvm.LawKit.callS X244 hx (y := (⟨"com/example/clew/clew/algebra/MembersAdvancePinLaw", "stepOk", "(Z[IIIIIIII)Z"⟩ : MethodName)) hown (mvT hZ (hw _ (List.mem_of_getElem? (i := 63) rfl))) (mvT hZ (hw _ (List.mem_of_getElem? (i := 64) rfl))) (mvT hZ (hw _ (List.mem_of_getElem? (i := 65) rfl))) (mvT hZ (hw _ (List.mem_of_getElem? (i := 66) rfl))) (by decide) (backOf (W := 0) (rmSO l Z a0 hw [] (1 : Int32) b172 (1 : Int32) (2 : Int32) vv p1 p2 p3 p4 k172 p2 T244.heap n0 (Nat.le_trans Z0 K254.1) Vq195 hv4 (by decide) (by first | rfl | simp [expF])) hZ (hw _ (List.mem_of_getElem? (i := 66) rfl)) (hw _ (List.mem_of_getElem? (i := 65) rfl)) (by decide) (by decide)) (g := (mkF m 195 #[iv p1, iv p2, iv p3, iv p4, iv p5, iv 2, iv vv, rv b161, rv b172, rv b197, iv 1, iv 1, iv 1, .unset, .unset, .unset] [(.int p4), (.int p3), (.int p2), (.int p1), (.int vv), (.int 2), (.int 1), (.ref b172), (.int 1)])) rfl (by rw [hml]; rfl) (argsL := [(.int 1), (.ref b172), (.int 1), (.int 2), (.int vv), (.int p1), (.int p2), (.int p3), (.int p4)]) (rest := []) (lenOf pd_6 rfl) rfl (by show 2 * 0 + _ ≤ _; exact Nat.le_of_eq rfl) (hb hby at_195) (fun _ _ => ⟨rfl, rfl, (by decide : 5 + 0 ≤ _), (by decide : 17 + 0 ≤ _)⟩)
    dsimp only [Pt.U, Pt.locs, Pt.cells, Pt.slots] at X255 l255 y255 z255 st255 hQ255
    subst l255 y255 z255
    obtain ⟨rfl, M255, e255⟩ := hQ255
    have N255 := Fr.app N244 M255
    refine Goes.on (fun t k => st255 _ k) ?_
    show Goes p e below QQ (T255.setTop (mkF m 198 #[iv p1, iv p2, iv p3, iv p4, iv p5, iv 2, iv vv, rv b161, rv b172, rv b197, iv 1, iv 1, iv 1, .unset, .unset, .unset] [(.int 1)]))
    refine Goes.on (fun t k => XS.ifNo X255.here hx rfl (hb hby at_198) rfl ((if0 _ _).trans (feq (by decide)).1) k) ?_
    show Goes p e below QQ (T255.setTop (mkF m 201 #[iv p1, iv p2, iv p3, iv p4, iv p5, iv 2, iv vv, rv b161, rv b172, rv b197, iv 1, iv 1, iv 1, .unset, .unset, .unset] []))
    refine Goes.on (fun t k => XS.iconst X255.here hx rfl (hb hby at_201) k) ?_
    show Goes p e below QQ (T255.setTop (mkF m 202 #[iv p1, iv p2, iv p3, iv p4, iv p5, iv 2, iv vv, rv b161, rv b172, rv b197, iv 1, iv 1, iv 1, .unset, .unset, .unset] [(.int 1)]))
    refine Goes.on (fun t k => XS.goto X255.here hx rfl (pc0 := 202) (pc' := 206) rfl (hb hby at_202) (by decide) (by decide) k) ?_
    show Goes p e below QQ (T255.setTop (mkF m 206 #[iv p1, iv p2, iv p3, iv p4, iv p5, iv 2, iv vv, rv b161, rv b172, rv b197, iv 1, iv 1, iv 1, .unset, .unset, .unset] [(.int 1)]))
    refine Goes.on (fun t k => XS.istore X255.here hx rfl (hb hby at_206) rfl (l' := #[iv p1, iv p2, iv p3, iv p4, iv p5, iv 2, iv vv, rv b161, rv b172, rv b197, iv 1, iv 1, iv 1, .unset, .unset, .unset]) rfl k) ?_
    show Goes p e below QQ (T255.setTop (mkF m 208 #[iv p1, iv p2, iv p3, iv p4, iv p5, iv 2, iv vv, rv b161, rv b172, rv b197, iv 1, iv 1, iv 1, .unset, .unset, .unset] []))
    refine Goes.on (fun t k => XS.aload X255.here hx rfl (hb hby at_208) rfl rfl k) ?_
    show Goes p e below QQ (T255.setTop (mkF m 210 #[iv p1, iv p2, iv p3, iv p4, iv p5, iv 2, iv vv, rv b161, rv b172, rv b197, iv 1, iv 1, iv 1, .unset, .unset, .unset] [(.ref b197)]))
    refine Goes.on (fun t k => XS.aload X255.here hx rfl (hb hby at_210) rfl rfl k) ?_
    show Goes p e below QQ (T255.setTop (mkF m 212 #[iv p1, iv p2, iv p3, iv p4, iv p5, iv 2, iv vv, rv b161, rv b172, rv b197, iv 1, iv 1, iv 1, .unset, .unset, .unset] [(.ref b172), (.ref b197)]))
    obtain ⟨cq256, kq256, q256a, q256b, q256c⟩ := isOf hZ e255 A197_247
    obtain ⟨_, _, ⟨T256, L256, k256, n256⟩, -, X256, ⟨Lc256, hQ256, l256, y256, z256⟩, st256⟩ := X255.virtualBack hx (y := (⟨"com/example/clew/clew/algebra/Step$Members", "advance", "([I)Z"⟩ : MethodName)) (z := (⟨"com/example/clew/clew/algebra/Step$Members", "advance", "([I)Z"⟩ : MethodName)) hown (mvT hZ (hw _ (List.mem_of_getElem? (i := 58) rfl))) (mvT hZ (hw _ (List.mem_of_getElem? (i := 59) rfl))) (notFace_of_selects (args := #[]) (mvT hZ (hw _ (List.mem_of_getElem? (i := 61) rfl)))) (mvT hZ (hw _ (List.mem_of_getElem? (i := 61) rfl))) (mvT hZ (hw _ (List.mem_of_getElem? (i := 60) rfl))) (by decide) (backOf (W := 0) (rmNo l Z a0 hw [] b197 b172 (2 : Int32) T244.heap n0 (Nat.le_trans Z0 K254.1) next_y1 end_y1) hZ (hw _ (List.mem_of_getElem? (i := 62) rfl)) (hw _ (List.mem_of_getElem? (i := 3) rfl)) (by decide) (by decide)) q256a q256c (g := (mkF m 212 #[iv p1, iv p2, iv p3, iv p4, iv p5, iv 2, iv vv, rv b161, rv b172, rv b197, iv 1, iv 1, iv 1, .unset, .unset, .unset] [(.ref b172), (.ref b197)])) rfl (by rw [hml]; rfl) (Steps.refl _) (argsL := [(.ref b172)]) (rest := []) (lenOf pd_5 rfl) rfl (by show 2 * 0 + _ ≤ _; exact Nat.le_of_eq rfl) (hb hby at_212) (fun _ _ => ⟨rfl, e255, (by decide : 5 + 0 ≤ _), (by decide : 17 + 0 ≤ _)⟩)
    dsimp only [Pt.U, Pt.locs, Pt.cells, Pt.slots] at X256 l256 y256 z256 st256 hQ256
    subst l256 y256 z256
    obtain ⟨rfl, M256, e256⟩ := hQ256
    have N256 := Fr.app N255 M256
    refine Goes.on (fun t k => st256.trans k) ?_
    show Goes p e below QQ (T256.setTop (mkF m 215 #[iv p1, iv p2, iv p3, iv p4, iv p5, iv 2, iv vv, rv b161, rv b172, rv b197, iv 1, iv 1, iv 1, .unset, .unset, .unset] [(.int 0)]))
    refine Goes.on (fun t k => XS.istore X256.here hx rfl (hb hby at_215) rfl (l' := #[iv p1, iv p2, iv p3, iv p4, iv p5, iv 2, iv vv, rv b161, rv b172, rv b197, iv 1, iv 1, iv 1, iv 0, .unset, .unset]) rfl k) ?_
    show Goes p e below QQ (T256.setTop (mkF m 217 #[iv p1, iv p2, iv p3, iv p4, iv p5, iv 2, iv vv, rv b161, rv b172, rv b197, iv 1, iv 1, iv 1, iv 0, .unset, .unset] []))
    refine Goes.on (fun t k => XS.iload X256.here hx rfl (hb hby at_217) rfl k) ?_
    show Goes p e below QQ (T256.setTop (mkF m 219 #[iv p1, iv p2, iv p3, iv p4, iv p5, iv 2, iv vv, rv b161, rv b172, rv b197, iv 1, iv 1, iv 1, iv 0, .unset, .unset] [(.int 1)]))
    refine Goes.on (fun t k => XS.ifNo X256.here hx rfl (hb hby at_219) rfl ((if0 _ _).trans (feq (by decide)).1) k) ?_
    show Goes p e below QQ (T256.setTop (mkF m 222 #[iv p1, iv p2, iv p3, iv p4, iv p5, iv 2, iv vv, rv b161, rv b172, rv b197, iv 1, iv 1, iv 1, iv 0, .unset, .unset] []))
    refine Goes.on (fun t k => XS.iload X256.here hx rfl (hb hby at_222) rfl k) ?_
    show Goes p e below QQ (T256.setTop (mkF m 224 #[iv p1, iv p2, iv p3, iv p4, iv p5, iv 2, iv vv, rv b161, rv b172, rv b197, iv 1, iv 1, iv 1, iv 0, .unset, .unset] [(.int 0)]))
    refine Goes.on (fun t k => XS.aload X256.here hx rfl (hb hby at_224) rfl rfl k) ?_
    show Goes p e below QQ (T256.setTop (mkF m 226 #[iv p1, iv p2, iv p3, iv p4, iv p5, iv 2, iv vv, rv b161, rv b172, rv b197, iv 1, iv 1, iv 1, iv 0, .unset, .unset] [(.ref b172), (.int 0)]))
    refine Goes.on (fun t k => XS.iconst X256.here hx rfl (hb hby at_226) k) ?_
    show Goes p e below QQ (T256.setTop (mkF m 227 #[iv p1, iv p2, iv p3, iv p4, iv p5, iv 2, iv vv, rv b161, rv b172, rv b197, iv 1, iv 1, iv 1, iv 0, .unset, .unset] [(.int 2), (.ref b172), (.int 0)]))
    refine Goes.on (fun t k => XS.iload X256.here hx rfl (hb hby at_227) rfl k) ?_
    show Goes p e below QQ (T256.setTop (mkF m 229 #[iv p1, iv p2, iv p3, iv p4, iv p5, iv 2, iv vv, rv b161, rv b172, rv b197, iv 1, iv 1, iv 1, iv 0, .unset, .unset] [(.int 2), (.int 2), (.ref b172), (.int 0)]))
    refine Goes.on (fun t k => XS.iload X256.here hx rfl (hb hby at_229) rfl k) ?_
    show Goes p e below QQ (T256.setTop (mkF m 231 #[iv p1, iv p2, iv p3, iv p4, iv p5, iv 2, iv vv, rv b161, rv b172, rv b197, iv 1, iv 1, iv 1, iv 0, .unset, .unset] [(.int vv), (.int 2), (.int 2), (.ref b172), (.int 0)]))
    refine Goes.on (fun t k => XS.iloadN X256.here hx rfl (hb hby at_231) rfl k) ?_
    show Goes p e below QQ (T256.setTop (mkF m 232 #[iv p1, iv p2, iv p3, iv p4, iv p5, iv 2, iv vv, rv b161, rv b172, rv b197, iv 1, iv 1, iv 1, iv 0, .unset, .unset] [(.int p1), (.int vv), (.int 2), (.int 2), (.ref b172), (.int 0)]))
    refine Goes.on (fun t k => XS.iloadN X256.here hx rfl (hb hby at_232) rfl k) ?_
    show Goes p e below QQ (T256.setTop (mkF m 233 #[iv p1, iv p2, iv p3, iv p4, iv p5, iv 2, iv vv, rv b161, rv b172, rv b197, iv 1, iv 1, iv 1, iv 0, .unset, .unset] [(.int p2), (.int p1), (.int vv), (.int 2), (.int 2), (.ref b172), (.int 0)]))
    refine Goes.on (fun t k => XS.iloadN X256.here hx rfl (hb hby at_233) rfl k) ?_
    show Goes p e below QQ (T256.setTop (mkF m 234 #[iv p1, iv p2, iv p3, iv p4, iv p5, iv 2, iv vv, rv b161, rv b172, rv b197, iv 1, iv 1, iv 1, iv 0, .unset, .unset] [(.int p3), (.int p2), (.int p1), (.int vv), (.int 2), (.int 2), (.ref b172), (.int 0)]))
    refine Goes.on (fun t k => XS.iloadN X256.here hx rfl (hb hby at_234) rfl k) ?_
    show Goes p e below QQ (T256.setTop (mkF m 235 #[iv p1, iv p2, iv p3, iv p4, iv p5, iv 2, iv vv, rv b161, rv b172, rv b197, iv 1, iv 1, iv 1, iv 0, .unset, .unset] [(.int p4), (.int p3), (.int p2), (.int p1), (.int vv), (.int 2), (.int 2), (.ref b172), (.int 0)]))
    have Vq235 : Arv Z T244.heap b172 k172 .int (4 : Int32) ([(.int p4), (.int (p4 + (1 : Int32))), (.int (p4 + (2 : Int32))), (.int (p4 + (3 : Int32)))].set vv.toNatClampNeg (.int p2)) (.int (0 : Int32)) := (hrs0 ▸ Vry1)
    obtain ⟨_, _, ⟨T257, L257, k257, n257⟩, -, X257, ⟨Lc257, hQ257, l257, y257, z257⟩, st257⟩ := Jvm.LawKit.callS X256 hx (y := (⟨"com/example/clew/clew/algebra/MembersAdvancePinLaw", "stepOk", "(Z[IIIIIIII)Z"⟩ : MethodName)) hown (mvT hZ (hw _ (List.mem_of_getElem? (i := 63) rfl))) (mvT hZ (hw _ (List.mem_of_getElem? (i := 64) rfl))) (mvT hZ (hw _ (List.mem_of_getElem? (i := 65) rfl))) (mvT hZ (hw _ (List.mem_of_getElem? (i := 66) rfl))) (by decide) (backOf (W := 0) (rmSO l Z a0 hw [] (0 : Int32) b172 (2 : Int32) (2 : Int32) vv p1 p2 p3 p4 k172 p2 T244.heap n0 (Nat.le_trans Z0 K254.1) Vq235 hv4 (by decide) (by first | rfl | simp [expF])) hZ (hw _ (List.mem_of_getElem? (i := 66) rfl)) (hw _ (List.mem_of_getElem? (i := 65) rfl)) (by decide) (by decide)) (g := (mkF m 235 #[iv p1, iv p2, iv p3, iv p4, iv p5, iv 2, iv vv, rv b161, rv b172, rv b197, iv 1, iv 1, iv 1, iv 0, .unset, .unset] [(.int p4), (.int p3), (.int p2), (.int p1), (.int vv), (.int 2), (.int 2), (.ref b172), (.int 0)])) rfl (by rw [hml]; rfl) (argsL := [(.int 0), (.ref b172), (.int 2), (.int 2), (.int vv), (.int p1), (.int p2), (.int p3), (.int p4)]) (rest := []) (lenOf pd_6 rfl) rfl (by show 2 * 0 + _ ≤ _; exact Nat.le_of_eq rfl) (hb hby at_235) (fun _ _ => ⟨rfl, e256, (by decide : 5 + 0 ≤ _), (by decide : 17 + 0 ≤ _)⟩)
    dsimp only [Pt.U, Pt.locs, Pt.cells, Pt.slots] at X257 l257 y257 z257 st257 hQ257
    subst l257 y257 z257
    obtain ⟨rfl, M257, e257⟩ := hQ257
    have N257 := Fr.app N256 M257
    refine Goes.on (fun t k => st257 _ k) ?_
    show Goes p e below QQ (T257.setTop (mkF m 238 #[iv p1, iv p2, iv p3, iv p4, iv p5, iv 2, iv vv, rv b161, rv b172, rv b197, iv 1, iv 1, iv 1, iv 0, .unset, .unset] [(.int 1)]))
    refine Goes.on (fun t k => XS.ifNo X257.here hx rfl (hb hby at_238) rfl ((if0 _ _).trans (feq (by decide)).1) k) ?_
    show Goes p e below QQ (T257.setTop (mkF m 241 #[iv p1, iv p2, iv p3, iv p4, iv p5, iv 2, iv vv, rv b161, rv b172, rv b197, iv 1, iv 1, iv 1, iv 0, .unset, .unset] []))
    refine Goes.on (fun t k => XS.iconst X257.here hx rfl (hb hby at_241) k) ?_
    show Goes p e below QQ (T257.setTop (mkF m 242 #[iv p1, iv p2, iv p3, iv p4, iv p5, iv 2, iv vv, rv b161, rv b172, rv b197, iv 1, iv 1, iv 1, iv 0, .unset, .unset] [(.int 1)]))
    refine Goes.on (fun t k => XS.goto X257.here hx rfl (pc0 := 242) (pc' := 246) rfl (hb hby at_242) (by decide) (by decide) k) ?_
    show Goes p e below QQ (T257.setTop (mkF m 246 #[iv p1, iv p2, iv p3, iv p4, iv p5, iv 2, iv vv, rv b161, rv b172, rv b197, iv 1, iv 1, iv 1, iv 0, .unset, .unset] [(.int 1)]))
    refine Goes.on (fun t k => XS.istore X257.here hx rfl (hb hby at_246) rfl (l' := #[iv p1, iv p2, iv p3, iv p4, iv p5, iv 2, iv vv, rv b161, rv b172, rv b197, iv 1, iv 1, iv 1, iv 0, .unset, .unset]) rfl k) ?_
    show Goes p e below QQ (T257.setTop (mkF m 248 #[iv p1, iv p2, iv p3, iv p4, iv p5, iv 2, iv vv, rv b161, rv b172, rv b197, iv 1, iv 1, iv 1, iv 0, .unset, .unset] []))
    refine Goes.on (fun t k => XS.aload X257.here hx rfl (hb hby at_248) rfl rfl k) ?_
    show Goes p e below QQ (T257.setTop (mkF m 250 #[iv p1, iv p2, iv p3, iv p4, iv p5, iv 2, iv vv, rv b161, rv b172, rv b197, iv 1, iv 1, iv 1, iv 0, .unset, .unset] [(.ref b197)]))
    refine Goes.on (fun t k => XS.aload X257.here hx rfl (hb hby at_250) rfl rfl k) ?_
    show Goes p e below QQ (T257.setTop (mkF m 252 #[iv p1, iv p2, iv p3, iv p4, iv p5, iv 2, iv vv, rv b161, rv b172, rv b197, iv 1, iv 1, iv 1, iv 0, .unset, .unset] [(.ref b172), (.ref b197)]))
    obtain ⟨cq258, kq258, q258a, q258b, q258c⟩ := isOf hZ e257 A197_247
    obtain ⟨_, _, ⟨T258, L258, k258, n258⟩, -, X258, ⟨Lc258, hQ258, l258, y258, z258⟩, st258⟩ := X257.virtualBack hx (y := (⟨"com/example/clew/clew/algebra/Step$Members", "advance", "([I)Z"⟩ : MethodName)) (z := (⟨"com/example/clew/clew/algebra/Step$Members", "advance", "([I)Z"⟩ : MethodName)) hown (mvT hZ (hw _ (List.mem_of_getElem? (i := 58) rfl))) (mvT hZ (hw _ (List.mem_of_getElem? (i := 59) rfl))) (notFace_of_selects (args := #[]) (mvT hZ (hw _ (List.mem_of_getElem? (i := 61) rfl)))) (mvT hZ (hw _ (List.mem_of_getElem? (i := 61) rfl))) (mvT hZ (hw _ (List.mem_of_getElem? (i := 60) rfl))) (by decide) (backOf (W := 0) (rmNo l Z a0 hw [] b197 b172 (2 : Int32) T244.heap n0 (Nat.le_trans Z0 K254.1) next_y1 end_y1) hZ (hw _ (List.mem_of_getElem? (i := 62) rfl)) (hw _ (List.mem_of_getElem? (i := 3) rfl)) (by decide) (by decide)) q258a q258c (g := (mkF m 252 #[iv p1, iv p2, iv p3, iv p4, iv p5, iv 2, iv vv, rv b161, rv b172, rv b197, iv 1, iv 1, iv 1, iv 0, .unset, .unset] [(.ref b172), (.ref b197)])) rfl (by rw [hml]; rfl) (Steps.refl _) (argsL := [(.ref b172)]) (rest := []) (lenOf pd_5 rfl) rfl (by show 2 * 0 + _ ≤ _; exact Nat.le_of_eq rfl) (hb hby at_252) (fun _ _ => ⟨rfl, e257, (by decide : 5 + 0 ≤ _), (by decide : 17 + 0 ≤ _)⟩)
    dsimp only [Pt.U, Pt.locs, Pt.cells, Pt.slots] at X258 l258 y258 z258 st258 hQ258
    subst l258 y258 z258
    obtain ⟨rfl, M258, e258⟩ := hQ258
    have N258 := Fr.app N257 M258
    refine Goes.on (fun t k => st258.trans k) ?_
    show Goes p e below QQ (T258.setTop (mkF m 255 #[iv p1, iv p2, iv p3, iv p4, iv p5, iv 2, iv vv, rv b161, rv b172, rv b197, iv 1, iv 1, iv 1, iv 0, .unset, .unset] [(.int 0)]))
    refine Goes.on (fun t k => XS.istore X258.here hx rfl (hb hby at_255) rfl (l' := #[iv p1, iv p2, iv p3, iv p4, iv p5, iv 2, iv vv, rv b161, rv b172, rv b197, iv 1, iv 1, iv 1, iv 0, iv 0, .unset]) rfl k) ?_
    show Goes p e below QQ (T258.setTop (mkF m 257 #[iv p1, iv p2, iv p3, iv p4, iv p5, iv 2, iv vv, rv b161, rv b172, rv b197, iv 1, iv 1, iv 1, iv 0, iv 0, .unset] []))
    refine Goes.on (fun t k => XS.iload X258.here hx rfl (hb hby at_257) rfl k) ?_
    show Goes p e below QQ (T258.setTop (mkF m 259 #[iv p1, iv p2, iv p3, iv p4, iv p5, iv 2, iv vv, rv b161, rv b172, rv b197, iv 1, iv 1, iv 1, iv 0, iv 0, .unset] [(.int 1)]))
    refine Goes.on (fun t k => XS.ifNo X258.here hx rfl (hb hby at_259) rfl ((if0 _ _).trans (feq (by decide)).1) k) ?_
    show Goes p e below QQ (T258.setTop (mkF m 262 #[iv p1, iv p2, iv p3, iv p4, iv p5, iv 2, iv vv, rv b161, rv b172, rv b197, iv 1, iv 1, iv 1, iv 0, iv 0, .unset] []))
    refine Goes.on (fun t k => XS.iload X258.here hx rfl (hb hby at_262) rfl k) ?_
    show Goes p e below QQ (T258.setTop (mkF m 264 #[iv p1, iv p2, iv p3, iv p4, iv p5, iv 2, iv vv, rv b161, rv b172, rv b197, iv 1, iv 1, iv 1, iv 0, iv 0, .unset] [(.int 0)]))
    refine Goes.on (fun t k => XS.aload X258.here hx rfl (hb hby at_264) rfl rfl k) ?_
    show Goes p e below QQ (T258.setTop (mkF m 266 #[iv p1, iv p2, iv p3, iv p4, iv p5, iv 2, iv vv, rv b161, rv b172, rv b197, iv 1, iv 1, iv 1, iv 0, iv 0, .unset] [(.ref b172), (.int 0)]))
    refine Goes.on (fun t k => XS.iconst X258.here hx rfl (hb hby at_266) k) ?_
    show Goes p e below QQ (T258.setTop (mkF m 267 #[iv p1, iv p2, iv p3, iv p4, iv p5, iv 2, iv vv, rv b161, rv b172, rv b197, iv 1, iv 1, iv 1, iv 0, iv 0, .unset] [(.int 3), (.ref b172), (.int 0)]))
    refine Goes.on (fun t k => XS.iload X258.here hx rfl (hb hby at_267) rfl k) ?_
    show Goes p e below QQ (T258.setTop (mkF m 269 #[iv p1, iv p2, iv p3, iv p4, iv p5, iv 2, iv vv, rv b161, rv b172, rv b197, iv 1, iv 1, iv 1, iv 0, iv 0, .unset] [(.int 2), (.int 3), (.ref b172), (.int 0)]))
    refine Goes.on (fun t k => XS.iload X258.here hx rfl (hb hby at_269) rfl k) ?_
    show Goes p e below QQ (T258.setTop (mkF m 271 #[iv p1, iv p2, iv p3, iv p4, iv p5, iv 2, iv vv, rv b161, rv b172, rv b197, iv 1, iv 1, iv 1, iv 0, iv 0, .unset] [(.int vv), (.int 2), (.int 3), (.ref b172), (.int 0)]))
    refine Goes.on (fun t k => XS.iloadN X258.here hx rfl (hb hby at_271) rfl k) ?_
    show Goes p e below QQ (T258.setTop (mkF m 272 #[iv p1, iv p2, iv p3, iv p4, iv p5, iv 2, iv vv, rv b161, rv b172, rv b197, iv 1, iv 1, iv 1, iv 0, iv 0, .unset] [(.int p1), (.int vv), (.int 2), (.int 3), (.ref b172), (.int 0)]))
    refine Goes.on (fun t k => XS.iloadN X258.here hx rfl (hb hby at_272) rfl k) ?_
    show Goes p e below QQ (T258.setTop (mkF m 273 #[iv p1, iv p2, iv p3, iv p4, iv p5, iv 2, iv vv, rv b161, rv b172, rv b197, iv 1, iv 1, iv 1, iv 0, iv 0, .unset] [(.int p2), (.int p1), (.int vv), (.int 2), (.int 3), (.ref b172), (.int 0)]))
    refine Goes.on (fun t k => XS.iloadN X258.here hx rfl (hb hby at_273) rfl k) ?_
    show Goes p e below QQ (T258.setTop (mkF m 274 #[iv p1, iv p2, iv p3, iv p4, iv p5, iv 2, iv vv, rv b161, rv b172, rv b197, iv 1, iv 1, iv 1, iv 0, iv 0, .unset] [(.int p3), (.int p2), (.int p1), (.int vv), (.int 2), (.int 3), (.ref b172), (.int 0)]))
    refine Goes.on (fun t k => XS.iloadN X258.here hx rfl (hb hby at_274) rfl k) ?_
    show Goes p e below QQ (T258.setTop (mkF m 275 #[iv p1, iv p2, iv p3, iv p4, iv p5, iv 2, iv vv, rv b161, rv b172, rv b197, iv 1, iv 1, iv 1, iv 0, iv 0, .unset] [(.int p4), (.int p3), (.int p2), (.int p1), (.int vv), (.int 2), (.int 3), (.ref b172), (.int 0)]))
    have Vq275 : Arv Z T244.heap b172 k172 .int (4 : Int32) ([(.int p4), (.int (p4 + (1 : Int32))), (.int (p4 + (2 : Int32))), (.int (p4 + (3 : Int32)))].set vv.toNatClampNeg (.int p2)) (.int (0 : Int32)) := (hrs0 ▸ Vry1)
    obtain ⟨_, _, ⟨T259, L259, k259, n259⟩, -, X259, ⟨Lc259, hQ259, l259, y259, z259⟩, st259⟩ := Jvm.LawKit.callS X258 hx (y := (⟨"com/example/clew/clew/algebra/MembersAdvancePinLaw", "stepOk", "(Z[IIIIIIII)Z"⟩ : MethodName)) hown (mvT hZ (hw _ (List.mem_of_getElem? (i := 63) rfl))) (mvT hZ (hw _ (List.mem_of_getElem? (i := 64) rfl))) (mvT hZ (hw _ (List.mem_of_getElem? (i := 65) rfl))) (mvT hZ (hw _ (List.mem_of_getElem? (i := 66) rfl))) (by decide) (backOf (W := 0) (rmSO l Z a0 hw [] (0 : Int32) b172 (3 : Int32) (2 : Int32) vv p1 p2 p3 p4 k172 p2 T244.heap n0 (Nat.le_trans Z0 K254.1) Vq275 hv4 (by decide) (by first | rfl | simp [expF])) hZ (hw _ (List.mem_of_getElem? (i := 66) rfl)) (hw _ (List.mem_of_getElem? (i := 65) rfl)) (by decide) (by decide)) (g := (mkF m 275 #[iv p1, iv p2, iv p3, iv p4, iv p5, iv 2, iv vv, rv b161, rv b172, rv b197, iv 1, iv 1, iv 1, iv 0, iv 0, .unset] [(.int p4), (.int p3), (.int p2), (.int p1), (.int vv), (.int 2), (.int 3), (.ref b172), (.int 0)])) rfl (by rw [hml]; rfl) (argsL := [(.int 0), (.ref b172), (.int 3), (.int 2), (.int vv), (.int p1), (.int p2), (.int p3), (.int p4)]) (rest := []) (lenOf pd_6 rfl) rfl (by show 2 * 0 + _ ≤ _; exact Nat.le_of_eq rfl) (hb hby at_275) (fun _ _ => ⟨rfl, e258, (by decide : 5 + 0 ≤ _), (by decide : 17 + 0 ≤ _)⟩)
    dsimp only [Pt.U, Pt.locs, Pt.cells, Pt.slots] at X259 l259 y259 z259 st259 hQ259
    subst l259 y259 z259
    obtain ⟨rfl, M259, e259⟩ := hQ259
    have N259 := Fr.app N258 M259
    refine Goes.on (fun t k => st259 _ k) ?_
    show Goes p e below QQ (T259.setTop (mkF m 278 #[iv p1, iv p2, iv p3, iv p4, iv p5, iv 2, iv vv, rv b161, rv b172, rv b197, iv 1, iv 1, iv 1, iv 0, iv 0, .unset] [(.int 1)]))
    refine Goes.on (fun t k => XS.ifNo X259.here hx rfl (hb hby at_278) rfl ((if0 _ _).trans (feq (by decide)).1) k) ?_
    show Goes p e below QQ (T259.setTop (mkF m 281 #[iv p1, iv p2, iv p3, iv p4, iv p5, iv 2, iv vv, rv b161, rv b172, rv b197, iv 1, iv 1, iv 1, iv 0, iv 0, .unset] []))
    refine Goes.on (fun t k => XS.iconst X259.here hx rfl (hb hby at_281) k) ?_
    show Goes p e below QQ (T259.setTop (mkF m 282 #[iv p1, iv p2, iv p3, iv p4, iv p5, iv 2, iv vv, rv b161, rv b172, rv b197, iv 1, iv 1, iv 1, iv 0, iv 0, .unset] [(.int 1)]))
    refine Goes.on (fun t k => XS.goto X259.here hx rfl (pc0 := 282) (pc' := 286) rfl (hb hby at_282) (by decide) (by decide) k) ?_
    show Goes p e below QQ (T259.setTop (mkF m 286 #[iv p1, iv p2, iv p3, iv p4, iv p5, iv 2, iv vv, rv b161, rv b172, rv b197, iv 1, iv 1, iv 1, iv 0, iv 0, .unset] [(.int 1)]))
    refine Goes.on (fun t k => XS.istore X259.here hx rfl (hb hby at_286) rfl (l' := #[iv p1, iv p2, iv p3, iv p4, iv p5, iv 2, iv vv, rv b161, rv b172, rv b197, iv 1, iv 1, iv 1, iv 0, iv 0, .unset]) rfl k) ?_
    show Goes p e below QQ (T259.setTop (mkF m 288 #[iv p1, iv p2, iv p3, iv p4, iv p5, iv 2, iv vv, rv b161, rv b172, rv b197, iv 1, iv 1, iv 1, iv 0, iv 0, .unset] []))
    refine Goes.on (fun t k => XS.aload X259.here hx rfl (hb hby at_288) rfl rfl k) ?_
    show Goes p e below QQ (T259.setTop (mkF m 290 #[iv p1, iv p2, iv p3, iv p4, iv p5, iv 2, iv vv, rv b161, rv b172, rv b197, iv 1, iv 1, iv 1, iv 0, iv 0, .unset] [(.ref b197)]))
    refine Goes.on (fun t k => XS.aload X259.here hx rfl (hb hby at_290) rfl rfl k) ?_
    show Goes p e below QQ (T259.setTop (mkF m 292 #[iv p1, iv p2, iv p3, iv p4, iv p5, iv 2, iv vv, rv b161, rv b172, rv b197, iv 1, iv 1, iv 1, iv 0, iv 0, .unset] [(.ref b172), (.ref b197)]))
    obtain ⟨cq260, kq260, q260a, q260b, q260c⟩ := isOf hZ e259 A197_247
    obtain ⟨_, _, ⟨T260, L260, k260, n260⟩, -, X260, ⟨Lc260, hQ260, l260, y260, z260⟩, st260⟩ := X259.virtualBack hx (y := (⟨"com/example/clew/clew/algebra/Step$Members", "advance", "([I)Z"⟩ : MethodName)) (z := (⟨"com/example/clew/clew/algebra/Step$Members", "advance", "([I)Z"⟩ : MethodName)) hown (mvT hZ (hw _ (List.mem_of_getElem? (i := 58) rfl))) (mvT hZ (hw _ (List.mem_of_getElem? (i := 59) rfl))) (notFace_of_selects (args := #[]) (mvT hZ (hw _ (List.mem_of_getElem? (i := 61) rfl)))) (mvT hZ (hw _ (List.mem_of_getElem? (i := 61) rfl))) (mvT hZ (hw _ (List.mem_of_getElem? (i := 60) rfl))) (by decide) (backOf (W := 0) (rmNo l Z a0 hw [] b197 b172 (2 : Int32) T244.heap n0 (Nat.le_trans Z0 K254.1) next_y1 end_y1) hZ (hw _ (List.mem_of_getElem? (i := 62) rfl)) (hw _ (List.mem_of_getElem? (i := 3) rfl)) (by decide) (by decide)) q260a q260c (g := (mkF m 292 #[iv p1, iv p2, iv p3, iv p4, iv p5, iv 2, iv vv, rv b161, rv b172, rv b197, iv 1, iv 1, iv 1, iv 0, iv 0, .unset] [(.ref b172), (.ref b197)])) rfl (by rw [hml]; rfl) (Steps.refl _) (argsL := [(.ref b172)]) (rest := []) (lenOf pd_5 rfl) rfl (by show 2 * 0 + _ ≤ _; exact Nat.le_of_eq rfl) (hb hby at_292) (fun _ _ => ⟨rfl, e259, (by decide : 5 + 0 ≤ _), (by decide : 17 + 0 ≤ _)⟩)
    dsimp only [Pt.U, Pt.locs, Pt.cells, Pt.slots] at X260 l260 y260 z260 st260 hQ260
    subst l260 y260 z260
    obtain ⟨rfl, M260, e260⟩ := hQ260
    have N260 := Fr.app N259 M260
    refine Goes.on (fun t k => st260.trans k) ?_
    show Goes p e below QQ (T260.setTop (mkF m 295 #[iv p1, iv p2, iv p3, iv p4, iv p5, iv 2, iv vv, rv b161, rv b172, rv b197, iv 1, iv 1, iv 1, iv 0, iv 0, .unset] [(.int 0)]))
    refine Goes.on (fun t k => XS.istore X260.here hx rfl (hb hby at_295) rfl (l' := #[iv p1, iv p2, iv p3, iv p4, iv p5, iv 2, iv vv, rv b161, rv b172, rv b197, iv 1, iv 1, iv 1, iv 0, iv 0, iv 0]) rfl k) ?_
    show Goes p e below QQ (T260.setTop (mkF m 297 #[iv p1, iv p2, iv p3, iv p4, iv p5, iv 2, iv vv, rv b161, rv b172, rv b197, iv 1, iv 1, iv 1, iv 0, iv 0, iv 0] []))
    refine Goes.on (fun t k => XS.iload X260.here hx rfl (hb hby at_297) rfl k) ?_
    show Goes p e below QQ (T260.setTop (mkF m 299 #[iv p1, iv p2, iv p3, iv p4, iv p5, iv 2, iv vv, rv b161, rv b172, rv b197, iv 1, iv 1, iv 1, iv 0, iv 0, iv 0] [(.int 1)]))
    refine Goes.on (fun t k => XS.ifNo X260.here hx rfl (hb hby at_299) rfl ((if0 _ _).trans (feq (by decide)).1) k) ?_
    show Goes p e below QQ (T260.setTop (mkF m 302 #[iv p1, iv p2, iv p3, iv p4, iv p5, iv 2, iv vv, rv b161, rv b172, rv b197, iv 1, iv 1, iv 1, iv 0, iv 0, iv 0] []))
    refine Goes.on (fun t k => XS.iload X260.here hx rfl (hb hby at_302) rfl k) ?_
    show Goes p e below QQ (T260.setTop (mkF m 304 #[iv p1, iv p2, iv p3, iv p4, iv p5, iv 2, iv vv, rv b161, rv b172, rv b197, iv 1, iv 1, iv 1, iv 0, iv 0, iv 0] [(.int 0)]))
    refine Goes.on (fun t k => XS.aload X260.here hx rfl (hb hby at_304) rfl rfl k) ?_
    show Goes p e below QQ (T260.setTop (mkF m 306 #[iv p1, iv p2, iv p3, iv p4, iv p5, iv 2, iv vv, rv b161, rv b172, rv b197, iv 1, iv 1, iv 1, iv 0, iv 0, iv 0] [(.ref b172), (.int 0)]))
    refine Goes.on (fun t k => XS.iconst X260.here hx rfl (hb hby at_306) k) ?_
    show Goes p e below QQ (T260.setTop (mkF m 307 #[iv p1, iv p2, iv p3, iv p4, iv p5, iv 2, iv vv, rv b161, rv b172, rv b197, iv 1, iv 1, iv 1, iv 0, iv 0, iv 0] [(.int 4), (.ref b172), (.int 0)]))
    refine Goes.on (fun t k => XS.iload X260.here hx rfl (hb hby at_307) rfl k) ?_
    show Goes p e below QQ (T260.setTop (mkF m 309 #[iv p1, iv p2, iv p3, iv p4, iv p5, iv 2, iv vv, rv b161, rv b172, rv b197, iv 1, iv 1, iv 1, iv 0, iv 0, iv 0] [(.int 2), (.int 4), (.ref b172), (.int 0)]))
    refine Goes.on (fun t k => XS.iload X260.here hx rfl (hb hby at_309) rfl k) ?_
    show Goes p e below QQ (T260.setTop (mkF m 311 #[iv p1, iv p2, iv p3, iv p4, iv p5, iv 2, iv vv, rv b161, rv b172, rv b197, iv 1, iv 1, iv 1, iv 0, iv 0, iv 0] [(.int vv), (.int 2), (.int 4), (.ref b172), (.int 0)]))
    refine Goes.on (fun t k => XS.iloadN X260.here hx rfl (hb hby at_311) rfl k) ?_
    show Goes p e below QQ (T260.setTop (mkF m 312 #[iv p1, iv p2, iv p3, iv p4, iv p5, iv 2, iv vv, rv b161, rv b172, rv b197, iv 1, iv 1, iv 1, iv 0, iv 0, iv 0] [(.int p1), (.int vv), (.int 2), (.int 4), (.ref b172), (.int 0)]))
    refine Goes.on (fun t k => XS.iloadN X260.here hx rfl (hb hby at_312) rfl k) ?_
    show Goes p e below QQ (T260.setTop (mkF m 313 #[iv p1, iv p2, iv p3, iv p4, iv p5, iv 2, iv vv, rv b161, rv b172, rv b197, iv 1, iv 1, iv 1, iv 0, iv 0, iv 0] [(.int p2), (.int p1), (.int vv), (.int 2), (.int 4), (.ref b172), (.int 0)]))
    refine Goes.on (fun t k => XS.iloadN X260.here hx rfl (hb hby at_313) rfl k) ?_
    show Goes p e below QQ (T260.setTop (mkF m 314 #[iv p1, iv p2, iv p3, iv p4, iv p5, iv 2, iv vv, rv b161, rv b172, rv b197, iv 1, iv 1, iv 1, iv 0, iv 0, iv 0] [(.int p3), (.int p2), (.int p1), (.int vv), (.int 2), (.int 4), (.ref b172), (.int 0)]))
    refine Goes.on (fun t k => XS.iloadN X260.here hx rfl (hb hby at_314) rfl k) ?_
    show Goes p e below QQ (T260.setTop (mkF m 315 #[iv p1, iv p2, iv p3, iv p4, iv p5, iv 2, iv vv, rv b161, rv b172, rv b197, iv 1, iv 1, iv 1, iv 0, iv 0, iv 0] [(.int p4), (.int p3), (.int p2), (.int p1), (.int vv), (.int 2), (.int 4), (.ref b172), (.int 0)]))
    have Vq315 : Arv Z T244.heap b172 k172 .int (4 : Int32) ([(.int p4), (.int (p4 + (1 : Int32))), (.int (p4 + (2 : Int32))), (.int (p4 + (3 : Int32)))].set vv.toNatClampNeg (.int p2)) (.int (0 : Int32)) := (hrs0 ▸ Vry1)
    obtain ⟨_, _, ⟨T261, L261, k261, n261⟩, -, X261, ⟨Lc261, hQ261, l261, y261, z261⟩, st261⟩ := Jvm.LawKit.callS X260 hx (y := (⟨"com/example/clew/clew/algebra/MembersAdvancePinLaw", "stepOk", "(Z[IIIIIIII)Z"⟩ : MethodName)) hown (mvT hZ (hw _ (List.mem_of_getElem? (i := 63) rfl))) (mvT hZ (hw _ (List.mem_of_getElem? (i := 64) rfl))) (mvT hZ (hw _ (List.mem_of_getElem? (i := 65) rfl))) (mvT hZ (hw _ (List.mem_of_getElem? (i := 66) rfl))) (by decide) (backOf (W := 0) (rmSO l Z a0 hw [] (0 : Int32) b172 (4 : Int32) (2 : Int32) vv p1 p2 p3 p4 k172 p2 T244.heap n0 (Nat.le_trans Z0 K254.1) Vq315 hv4 (by decide) (by first | rfl | simp [expF])) hZ (hw _ (List.mem_of_getElem? (i := 66) rfl)) (hw _ (List.mem_of_getElem? (i := 65) rfl)) (by decide) (by decide)) (g := (mkF m 315 #[iv p1, iv p2, iv p3, iv p4, iv p5, iv 2, iv vv, rv b161, rv b172, rv b197, iv 1, iv 1, iv 1, iv 0, iv 0, iv 0] [(.int p4), (.int p3), (.int p2), (.int p1), (.int vv), (.int 2), (.int 4), (.ref b172), (.int 0)])) rfl (by rw [hml]; rfl) (argsL := [(.int 0), (.ref b172), (.int 4), (.int 2), (.int vv), (.int p1), (.int p2), (.int p3), (.int p4)]) (rest := []) (lenOf pd_6 rfl) rfl (by show 2 * 0 + _ ≤ _; exact Nat.le_of_eq rfl) (hb hby at_315) (fun _ _ => ⟨rfl, e260, (by decide : 5 + 0 ≤ _), (by decide : 17 + 0 ≤ _)⟩)
    dsimp only [Pt.U, Pt.locs, Pt.cells, Pt.slots] at X261 l261 y261 z261 st261 hQ261
    subst l261 y261 z261
    obtain ⟨rfl, M261, e261⟩ := hQ261
    have N261 := Fr.app N260 M261
    refine Goes.on (fun t k => st261 _ k) ?_
    show Goes p e below QQ (T261.setTop (mkF m 318 #[iv p1, iv p2, iv p3, iv p4, iv p5, iv 2, iv vv, rv b161, rv b172, rv b197, iv 1, iv 1, iv 1, iv 0, iv 0, iv 0] [(.int 1)]))
    refine Goes.on (fun t k => XS.ifNo X261.here hx rfl (hb hby at_318) rfl ((if0 _ _).trans (feq (by decide)).1) k) ?_
    show Goes p e below QQ (T261.setTop (mkF m 321 #[iv p1, iv p2, iv p3, iv p4, iv p5, iv 2, iv vv, rv b161, rv b172, rv b197, iv 1, iv 1, iv 1, iv 0, iv 0, iv 0] []))
    refine Goes.on (fun t k => XS.iconst X261.here hx rfl (hb hby at_321) k) ?_
    show Goes p e below QQ (T261.setTop (mkF m 322 #[iv p1, iv p2, iv p3, iv p4, iv p5, iv 2, iv vv, rv b161, rv b172, rv b197, iv 1, iv 1, iv 1, iv 0, iv 0, iv 0] [(.int 1)]))
    refine Goes.on (fun t k => XS.goto X261.here hx rfl (pc0 := 322) (pc' := 326) rfl (hb hby at_322) (by decide) (by decide) k) ?_
    show Goes p e below QQ (T261.setTop (mkF m 326 #[iv p1, iv p2, iv p3, iv p4, iv p5, iv 2, iv vv, rv b161, rv b172, rv b197, iv 1, iv 1, iv 1, iv 0, iv 0, iv 0] [(.int 1)]))
    refine Goes.on (fun t k => XS.istore X261.here hx rfl (hb hby at_326) rfl (l' := #[iv p1, iv p2, iv p3, iv p4, iv p5, iv 2, iv vv, rv b161, rv b172, rv b197, iv 1, iv 1, iv 1, iv 0, iv 0, iv 0]) rfl k) ?_
    show Goes p e below QQ (T261.setTop (mkF m 328 #[iv p1, iv p2, iv p3, iv p4, iv p5, iv 2, iv vv, rv b161, rv b172, rv b197, iv 1, iv 1, iv 1, iv 0, iv 0, iv 0] []))
    refine Goes.on (fun t k => XS.iload X261.here hx rfl (hb hby at_328) rfl k) ?_
    show Goes p e below QQ (T261.setTop (mkF m 330 #[iv p1, iv p2, iv p3, iv p4, iv p5, iv 2, iv vv, rv b161, rv b172, rv b197, iv 1, iv 1, iv 1, iv 0, iv 0, iv 0] [(.int 1)]))
    exact Goes.rN X261 hx (t := .boolean) hret (by simp) hlk (hb hby at_330) hQQ ⟨rfl, N261⟩ (by decide) (by decide)
  · show Goes p e below QQ (s₁.setTop (mkF m 14 #[iv p1, iv p2, iv p3, iv p4, iv p5, iv 3, iv vv, .unset, .unset, .unset, .unset, .unset, .unset, .unset, .unset, .unset] []))
    refine Goes.on (fun t k => XS.iload X0.here hx rfl (hb hby at_14) rfl k) ?_
    show Goes p e below QQ (s₁.setTop (mkF m 16 #[iv p1, iv p2, iv p3, iv p4, iv p5, iv 3, iv vv, .unset, .unset, .unset, .unset, .unset, .unset, .unset, .unset, .unset] [(.int 3)]))
    refine Goes.on (fun t k => XS.ifYes X0.here hx rfl (pc0 := 16) (pc' := 25) rfl (hb hby at_16) rfl ((if0 _ _).trans (feq (by decide)).2) (by decide) (by decide) k) ?_
    show Goes p e below QQ (s₁.setTop (mkF m 25 #[iv p1, iv p2, iv p3, iv p4, iv p5, iv 3, iv vv, .unset, .unset, .unset, .unset, .unset, .unset, .unset, .unset, .unset] []))
    refine Goes.on (fun t k => XS.iload X0.here hx rfl (hb hby at_25) rfl k) ?_
    show Goes p e below QQ (s₁.setTop (mkF m 27 #[iv p1, iv p2, iv p3, iv p4, iv p5, iv 3, iv vv, .unset, .unset, .unset, .unset, .unset, .unset, .unset, .unset, .unset] [(.int 3)]))
    refine Goes.on (fun t k => XS.iconst X0.here hx rfl (hb hby at_27) k) ?_
    show Goes p e below QQ (s₁.setTop (mkF m 28 #[iv p1, iv p2, iv p3, iv p4, iv p5, iv 3, iv vv, .unset, .unset, .unset, .unset, .unset, .unset, .unset, .unset, .unset] [(.int 1), (.int 3)]))
    refine Goes.on (fun t k => XS.icmpYes X0.here hx rfl (pc0 := 28) (pc' := 41) rfl (hb hby at_28) rfl (feq (by decide)).2 (by decide) (by decide) k) ?_
    show Goes p e below QQ (s₁.setTop (mkF m 41 #[iv p1, iv p2, iv p3, iv p4, iv p5, iv 3, iv vv, .unset, .unset, .unset, .unset, .unset, .unset, .unset, .unset, .unset] []))
    refine Goes.on (fun t k => XS.iload X0.here hx rfl (hb hby at_41) rfl k) ?_
    show Goes p e below QQ (s₁.setTop (mkF m 43 #[iv p1, iv p2, iv p3, iv p4, iv p5, iv 3, iv vv, .unset, .unset, .unset, .unset, .unset, .unset, .unset, .unset, .unset] [(.int 3)]))
    refine Goes.on (fun t k => XS.iconst X0.here hx rfl (hb hby at_43) k) ?_
    show Goes p e below QQ (s₁.setTop (mkF m 44 #[iv p1, iv p2, iv p3, iv p4, iv p5, iv 3, iv vv, .unset, .unset, .unset, .unset, .unset, .unset, .unset, .unset, .unset] [(.int 2), (.int 3)]))
    refine Goes.on (fun t k => XS.icmpYes X0.here hx rfl (pc0 := 44) (pc' := 61) rfl (hb hby at_44) rfl (feq (by decide)).2 (by decide) (by decide) k) ?_
    show Goes p e below QQ (s₁.setTop (mkF m 61 #[iv p1, iv p2, iv p3, iv p4, iv p5, iv 3, iv vv, .unset, .unset, .unset, .unset, .unset, .unset, .unset, .unset, .unset] []))
    refine Goes.on (fun t k => XS.iconst X0.here hx rfl (hb hby at_61) k) ?_
    show Goes p e below QQ (s₁.setTop (mkF m 62 #[iv p1, iv p2, iv p3, iv p4, iv p5, iv 3, iv vv, .unset, .unset, .unset, .unset, .unset, .unset, .unset, .unset, .unset] [(.int 3)]))
    obtain ⟨T262, h262, k262, X262, e262, E262, A262, st262⟩ := newP X0 hx hZ (hw _ (List.mem_of_getElem? (i := 0) rfl)) e0 (g := (mkF m 62 #[iv p1, iv p2, iv p3, iv p4, iv p5, iv 3, iv vv, .unset, .unset, .unset, .unset, .unset, .unset, .unset, .unset, .unset] [(.int 3)])) rfl (hb hby at_62) rfl (by decide) (cap := 3) (by decide) (by decide) (by decide) (by decide)
    obtain ⟨b262, g262⟩ : ∃ z, z = h0.size := ⟨_, rfl⟩
    rw [← g262] at A262 st262
    have sz_b262 : h0.size ≤ b262 := Nat.le_trans K0.1 (Nat.le_of_eq g262.symm)
    have g_b262 : n0 ≤ b262 := Nat.le_trans Z0 sz_b262
    have O_263 := O_0.ext E262
    have K262 := K0.ext E262
    have V_264 : Arv Z h262 b262 k262 .int (3 : Int32) [(.int 0), (.int 0), (.int 0)] (.int 0) := (Arv.new A262 (by decide)).pad (pad_rep [] (.int 0) 3)
    refine Goes.on (fun t k => st262 t k) ?_
    show Goes p e below QQ (T262.setTop (mkF m 64 #[iv p1, iv p2, iv p3, iv p4, iv p5, iv 3, iv vv, .unset, .unset, .unset, .unset, .unset, .unset, .unset, .unset, .unset] [(.ref b262)]))
    refine Goes.on (fun t k => XS.dup X262.here hx rfl (hb hby at_64) rfl rfl k) ?_
    show Goes p e below QQ (T262.setTop (mkF m 65 #[iv p1, iv p2, iv p3, iv p4, iv p5, iv 3, iv vv, .unset, .unset, .unset, .unset, .unset, .unset, .unset, .unset, .unset] [(.ref b262), (.ref b262)]))
    refine Goes.on (fun t k => XS.iconst X262.here hx rfl (hb hby at_65) k) ?_
    show Goes p e below QQ (T262.setTop (mkF m 66 #[iv p1, iv p2, iv p3, iv p4, iv p5, iv 3, iv vv, .unset, .unset, .unset, .unset, .unset, .unset, .unset, .unset, .unset] [(.int 0), (.ref b262), (.ref b262)]))
    refine Goes.on (fun t k => XS.iloadN X262.here hx rfl (hb hby at_66) rfl k) ?_
    show Goes p e below QQ (T262.setTop (mkF m 67 #[iv p1, iv p2, iv p3, iv p4, iv p5, iv 3, iv vv, .unset, .unset, .unset, .unset, .unset, .unset, .unset, .unset, .unset] [(.int p1), (.int 0), (.ref b262), (.ref b262)]))
    obtain ⟨cl265, Ar265, aq265, aS265, aN265, aH265, aG265⟩ := id V_264
    have hin265 := inb_of (j := (0 : Int32)) aS265 ⟨by decide, by decide⟩
    obtain ⟨T266, h266, X266, e266, W266, st266⟩ := stI X262 hx hZ e262 Ar265 (j := (0 : Int32)) hin265 (g := (mkF m 67 #[iv p1, iv p2, iv p3, iv p4, iv p5, iv 3, iv vv, .unset, .unset, .unset, .unset, .unset, .unset, .unset, .unset, .unset] [(.int p1), (.int 0), (.ref b262), (.ref b262)])) rfl rfl (hb hby at_67)
    have O_267 := O_263.wr W266 g_b262
    have K266 := K262.wr W266 (Or.inr sz_b262)
    have N266 := Fr.snoc X266 N0 g_b262
    have V_268 : Arv Z h266 b262 k262 .int (3 : Int32) [(.int p1), (.int 0), (.int 0)] (.int 0) := Arv.set Ar265 aq265 aS265 aN265 aH265 aG265 rfl W266 0 rfl (Nat.le_of_ble_eq_true rfl)
    refine Goes.on (fun t k => st266 t k) ?_
    show Goes p e below QQ (T266.setTop (mkF m 68 #[iv p1, iv p2, iv p3, iv p4, iv p5, iv 3, iv vv, .unset, .unset, .unset, .unset, .unset, .unset, .unset, .unset, .unset] [(.ref b262)]))
    refine Goes.on (fun t k => XS.dup X266.here hx rfl (hb hby at_68) rfl rfl k) ?_
    show Goes p e below QQ (T266.setTop (mkF m 69 #[iv p1, iv p2, iv p3, iv p4, iv p5, iv 3, iv vv, .unset, .unset, .unset, .unset, .unset, .unset, .unset, .unset, .unset] [(.ref b262), (.ref b262)]))
    refine Goes.on (fun t k => XS.iconst X266.here hx rfl (hb hby at_69) k) ?_
    show Goes p e below QQ (T266.setTop (mkF m 70 #[iv p1, iv p2, iv p3, iv p4, iv p5, iv 3, iv vv, .unset, .unset, .unset, .unset, .unset, .unset, .unset, .unset, .unset] [(.int 1), (.ref b262), (.ref b262)]))
    refine Goes.on (fun t k => XS.iloadN X266.here hx rfl (hb hby at_70) rfl k) ?_
    show Goes p e below QQ (T266.setTop (mkF m 71 #[iv p1, iv p2, iv p3, iv p4, iv p5, iv 3, iv vv, .unset, .unset, .unset, .unset, .unset, .unset, .unset, .unset, .unset] [(.int p2), (.int 1), (.ref b262), (.ref b262)]))
    obtain ⟨cl269, Ar269, aq269, aS269, aN269, aH269, aG269⟩ := id V_268
    have hin269 := inb_of (j := (1 : Int32)) aS269 ⟨by decide, by decide⟩
    obtain ⟨T270, h270, X270, e270, W270, st270⟩ := stI X266 hx hZ e266 Ar269 (j := (1 : Int32)) hin269 (g := (mkF m 71 #[iv p1, iv p2, iv p3, iv p4, iv p5, iv 3, iv vv, .unset, .unset, .unset, .unset, .unset, .unset, .unset, .unset, .unset] [(.int p2), (.int 1), (.ref b262), (.ref b262)])) rfl rfl (hb hby at_71)
    have O_271 := O_267.wr W270 g_b262
    have K270 := K266.wr W270 (Or.inr sz_b262)
    have N270 := Fr.snoc X270 N266 g_b262
    have V_272 : Arv Z h270 b262 k262 .int (3 : Int32) [(.int p1), (.int p2), (.int 0)] (.int 0) := Arv.set Ar269 aq269 aS269 aN269 aH269 aG269 rfl W270 1 rfl (Nat.le_of_ble_eq_true rfl)
    refine Goes.on (fun t k => st270 t k) ?_
    show Goes p e below QQ (T270.setTop (mkF m 72 #[iv p1, iv p2, iv p3, iv p4, iv p5, iv 3, iv vv, .unset, .unset, .unset, .unset, .unset, .unset, .unset, .unset, .unset] [(.ref b262)]))
    refine Goes.on (fun t k => XS.dup X270.here hx rfl (hb hby at_72) rfl rfl k) ?_
    show Goes p e below QQ (T270.setTop (mkF m 73 #[iv p1, iv p2, iv p3, iv p4, iv p5, iv 3, iv vv, .unset, .unset, .unset, .unset, .unset, .unset, .unset, .unset, .unset] [(.ref b262), (.ref b262)]))
    refine Goes.on (fun t k => XS.iconst X270.here hx rfl (hb hby at_73) k) ?_
    show Goes p e below QQ (T270.setTop (mkF m 74 #[iv p1, iv p2, iv p3, iv p4, iv p5, iv 3, iv vv, .unset, .unset, .unset, .unset, .unset, .unset, .unset, .unset, .unset] [(.int 2), (.ref b262), (.ref b262)]))
    refine Goes.on (fun t k => XS.iloadN X270.here hx rfl (hb hby at_74) rfl k) ?_
    show Goes p e below QQ (T270.setTop (mkF m 75 #[iv p1, iv p2, iv p3, iv p4, iv p5, iv 3, iv vv, .unset, .unset, .unset, .unset, .unset, .unset, .unset, .unset, .unset] [(.int p3), (.int 2), (.ref b262), (.ref b262)]))
    obtain ⟨cl273, Ar273, aq273, aS273, aN273, aH273, aG273⟩ := id V_272
    have hin273 := inb_of (j := (2 : Int32)) aS273 ⟨by decide, by decide⟩
    obtain ⟨T274, h274, X274, e274, W274, st274⟩ := stI X270 hx hZ e270 Ar273 (j := (2 : Int32)) hin273 (g := (mkF m 75 #[iv p1, iv p2, iv p3, iv p4, iv p5, iv 3, iv vv, .unset, .unset, .unset, .unset, .unset, .unset, .unset, .unset, .unset] [(.int p3), (.int 2), (.ref b262), (.ref b262)])) rfl rfl (hb hby at_75)
    have O_275 := O_271.wr W274 g_b262
    have K274 := K270.wr W274 (Or.inr sz_b262)
    have N274 := Fr.snoc X274 N270 g_b262
    have V_276 : Arv Z h274 b262 k262 .int (3 : Int32) [(.int p1), (.int p2), (.int p3)] (.int 0) := Arv.set Ar273 aq273 aS273 aN273 aH273 aG273 rfl W274 2 rfl (Nat.le_of_ble_eq_true rfl)
    refine Goes.on (fun t k => st274 t k) ?_
    show Goes p e below QQ (T274.setTop (mkF m 76 #[iv p1, iv p2, iv p3, iv p4, iv p5, iv 3, iv vv, .unset, .unset, .unset, .unset, .unset, .unset, .unset, .unset, .unset] [(.ref b262)]))
    refine Goes.on (fun t k => XS.astore X274.here hx rfl (hb hby at_76) rfl rfl (l' := #[iv p1, iv p2, iv p3, iv p4, iv p5, iv 3, iv vv, rv b262, .unset, .unset, .unset, .unset, .unset, .unset, .unset, .unset]) rfl k) ?_
    show Goes p e below QQ (T274.setTop (mkF m 78 #[iv p1, iv p2, iv p3, iv p4, iv p5, iv 3, iv vv, rv b262, .unset, .unset, .unset, .unset, .unset, .unset, .unset, .unset] []))
    refine Goes.on (fun t k => XS.iconst X274.here hx rfl (hb hby at_78) k) ?_
    show Goes p e below QQ (T274.setTop (mkF m 79 #[iv p1, iv p2, iv p3, iv p4, iv p5, iv 3, iv vv, rv b262, .unset, .unset, .unset, .unset, .unset, .unset, .unset, .unset] [(.int 4)]))
    obtain ⟨T277, h277, k277, X277, e277, E277, A277, st277⟩ := newP X274 hx hZ (hw _ (List.mem_of_getElem? (i := 0) rfl)) e274 (g := (mkF m 79 #[iv p1, iv p2, iv p3, iv p4, iv p5, iv 3, iv vv, rv b262, .unset, .unset, .unset, .unset, .unset, .unset, .unset, .unset] [(.int 4)])) rfl (hb hby at_79) rfl (by decide) (cap := 4) (by decide) (by decide) (by decide) (by decide)
    obtain ⟨b277, g277⟩ : ∃ z, z = h274.size := ⟨_, rfl⟩
    rw [← g277] at A277 st277
    have sz_b277 : h0.size ≤ b277 := Nat.le_trans K274.1 (Nat.le_of_eq g277.symm)
    have g_b277 : n0 ≤ b277 := Nat.le_trans Z0 sz_b277
    have ne_b262_b277 : b262 ≠ b277 := Nat.ne_of_lt (Nat.lt_of_lt_of_le V_276.lt (Nat.le_of_eq g277.symm))
    have O_278 := O_275.ext E277
    have V_279 := V_276.ext E277
    have K277 := K274.ext E277
    have V_280 : Arv Z h277 b277 k277 .int (4 : Int32) [(.int 0), (.int 0), (.int 0), (.int 0)] (.int 0) := (Arv.new A277 (by decide)).pad (pad_rep [] (.int 0) 4)
    refine Goes.on (fun t k => st277 t k) ?_
    show Goes p e below QQ (T277.setTop (mkF m 81 #[iv p1, iv p2, iv p3, iv p4, iv p5, iv 3, iv vv, rv b262, .unset, .unset, .unset, .unset, .unset, .unset, .unset, .unset] [(.ref b277)]))
    refine Goes.on (fun t k => XS.dup X277.here hx rfl (hb hby at_81) rfl rfl k) ?_
    show Goes p e below QQ (T277.setTop (mkF m 82 #[iv p1, iv p2, iv p3, iv p4, iv p5, iv 3, iv vv, rv b262, .unset, .unset, .unset, .unset, .unset, .unset, .unset, .unset] [(.ref b277), (.ref b277)]))
    refine Goes.on (fun t k => XS.iconst X277.here hx rfl (hb hby at_82) k) ?_
    show Goes p e below QQ (T277.setTop (mkF m 83 #[iv p1, iv p2, iv p3, iv p4, iv p5, iv 3, iv vv, rv b262, .unset, .unset, .unset, .unset, .unset, .unset, .unset, .unset] [(.int 0), (.ref b277), (.ref b277)]))
    refine Goes.on (fun t k => XS.iloadN X277.here hx rfl (hb hby at_83) rfl k) ?_
    show Goes p e below QQ (T277.setTop (mkF m 84 #[iv p1, iv p2, iv p3, iv p4, iv p5, iv 3, iv vv, rv b262, .unset, .unset, .unset, .unset, .unset, .unset, .unset, .unset] [(.int p4), (.int 0), (.ref b277), (.ref b277)]))
    obtain ⟨cl281, Ar281, aq281, aS281, aN281, aH281, aG281⟩ := id V_280
    have hin281 := inb_of (j := (0 : Int32)) aS281 ⟨by decide, by decide⟩
    obtain ⟨T282, h282, X282, e282, W282, st282⟩ := stI X277 hx hZ e277 Ar281 (j := (0 : Int32)) hin281 (g := (mkF m 84 #[iv p1, iv p2, iv p3, iv p4, iv p5, iv 3, iv vv, rv b262, .unset, .unset, .unset, .unset, .unset, .unset, .unset, .unset] [(.int p4), (.int 0), (.ref b277), (.ref b277)])) rfl rfl (hb hby at_84)
    have O_283 := O_278.wr W282 g_b277
    have V_284 := V_279.other W282 ne_b262_b277
    have K282 := K277.wr W282 (Or.inr sz_b277)
    have N282 := Fr.snoc X282 N274 g_b277
    have V_285 : Arv Z h282 b277 k277 .int (4 : Int32) [(.int p4), (.int 0), (.int 0), (.int 0)] (.int 0) := Arv.set Ar281 aq281 aS281 aN281 aH281 aG281 rfl W282 0 rfl (Nat.le_of_ble_eq_true rfl)
    refine Goes.on (fun t k => st282 t k) ?_
    show Goes p e below QQ (T282.setTop (mkF m 85 #[iv p1, iv p2, iv p3, iv p4, iv p5, iv 3, iv vv, rv b262, .unset, .unset, .unset, .unset, .unset, .unset, .unset, .unset] [(.ref b277)]))
    refine Goes.on (fun t k => XS.dup X282.here hx rfl (hb hby at_85) rfl rfl k) ?_
    show Goes p e below QQ (T282.setTop (mkF m 86 #[iv p1, iv p2, iv p3, iv p4, iv p5, iv 3, iv vv, rv b262, .unset, .unset, .unset, .unset, .unset, .unset, .unset, .unset] [(.ref b277), (.ref b277)]))
    refine Goes.on (fun t k => XS.iconst X282.here hx rfl (hb hby at_86) k) ?_
    show Goes p e below QQ (T282.setTop (mkF m 87 #[iv p1, iv p2, iv p3, iv p4, iv p5, iv 3, iv vv, rv b262, .unset, .unset, .unset, .unset, .unset, .unset, .unset, .unset] [(.int 1), (.ref b277), (.ref b277)]))
    refine Goes.on (fun t k => XS.iloadN X282.here hx rfl (hb hby at_87) rfl k) ?_
    show Goes p e below QQ (T282.setTop (mkF m 88 #[iv p1, iv p2, iv p3, iv p4, iv p5, iv 3, iv vv, rv b262, .unset, .unset, .unset, .unset, .unset, .unset, .unset, .unset] [(.int p4), (.int 1), (.ref b277), (.ref b277)]))
    refine Goes.on (fun t k => XS.iconst X282.here hx rfl (hb hby at_88) k) ?_
    show Goes p e below QQ (T282.setTop (mkF m 89 #[iv p1, iv p2, iv p3, iv p4, iv p5, iv 3, iv vv, rv b262, .unset, .unset, .unset, .unset, .unset, .unset, .unset, .unset] [(.int 1), (.int p4), (.int 1), (.ref b277), (.ref b277)]))
    refine Goes.on (fun t k => XS.iadd X282.here hx rfl (hb hby at_89) rfl k) ?_
    show Goes p e below QQ (T282.setTop (mkF m 90 #[iv p1, iv p2, iv p3, iv p4, iv p5, iv 3, iv vv, rv b262, .unset, .unset, .unset, .unset, .unset, .unset, .unset, .unset] [(.int (p4 + (1 : Int32))), (.int 1), (.ref b277), (.ref b277)]))
    obtain ⟨cl286, Ar286, aq286, aS286, aN286, aH286, aG286⟩ := id V_285
    have hin286 := inb_of (j := (1 : Int32)) aS286 ⟨by decide, by decide⟩
    obtain ⟨T287, h287, X287, e287, W287, st287⟩ := stI X282 hx hZ e282 Ar286 (j := (1 : Int32)) hin286 (g := (mkF m 90 #[iv p1, iv p2, iv p3, iv p4, iv p5, iv 3, iv vv, rv b262, .unset, .unset, .unset, .unset, .unset, .unset, .unset, .unset] [(.int (p4 + (1 : Int32))), (.int 1), (.ref b277), (.ref b277)])) rfl rfl (hb hby at_90)
    have O_288 := O_283.wr W287 g_b277
    have V_289 := V_284.other W287 ne_b262_b277
    have K287 := K282.wr W287 (Or.inr sz_b277)
    have N287 := Fr.snoc X287 N282 g_b277
    have V_290 : Arv Z h287 b277 k277 .int (4 : Int32) [(.int p4), (.int (p4 + (1 : Int32))), (.int 0), (.int 0)] (.int 0) := Arv.set Ar286 aq286 aS286 aN286 aH286 aG286 rfl W287 1 rfl (Nat.le_of_ble_eq_true rfl)
    refine Goes.on (fun t k => st287 t k) ?_
    show Goes p e below QQ (T287.setTop (mkF m 91 #[iv p1, iv p2, iv p3, iv p4, iv p5, iv 3, iv vv, rv b262, .unset, .unset, .unset, .unset, .unset, .unset, .unset, .unset] [(.ref b277)]))
    refine Goes.on (fun t k => XS.dup X287.here hx rfl (hb hby at_91) rfl rfl k) ?_
    show Goes p e below QQ (T287.setTop (mkF m 92 #[iv p1, iv p2, iv p3, iv p4, iv p5, iv 3, iv vv, rv b262, .unset, .unset, .unset, .unset, .unset, .unset, .unset, .unset] [(.ref b277), (.ref b277)]))
    refine Goes.on (fun t k => XS.iconst X287.here hx rfl (hb hby at_92) k) ?_
    show Goes p e below QQ (T287.setTop (mkF m 93 #[iv p1, iv p2, iv p3, iv p4, iv p5, iv 3, iv vv, rv b262, .unset, .unset, .unset, .unset, .unset, .unset, .unset, .unset] [(.int 2), (.ref b277), (.ref b277)]))
    refine Goes.on (fun t k => XS.iloadN X287.here hx rfl (hb hby at_93) rfl k) ?_
    show Goes p e below QQ (T287.setTop (mkF m 94 #[iv p1, iv p2, iv p3, iv p4, iv p5, iv 3, iv vv, rv b262, .unset, .unset, .unset, .unset, .unset, .unset, .unset, .unset] [(.int p4), (.int 2), (.ref b277), (.ref b277)]))
    refine Goes.on (fun t k => XS.iconst X287.here hx rfl (hb hby at_94) k) ?_
    show Goes p e below QQ (T287.setTop (mkF m 95 #[iv p1, iv p2, iv p3, iv p4, iv p5, iv 3, iv vv, rv b262, .unset, .unset, .unset, .unset, .unset, .unset, .unset, .unset] [(.int 2), (.int p4), (.int 2), (.ref b277), (.ref b277)]))
    refine Goes.on (fun t k => XS.iadd X287.here hx rfl (hb hby at_95) rfl k) ?_
    show Goes p e below QQ (T287.setTop (mkF m 96 #[iv p1, iv p2, iv p3, iv p4, iv p5, iv 3, iv vv, rv b262, .unset, .unset, .unset, .unset, .unset, .unset, .unset, .unset] [(.int (p4 + (2 : Int32))), (.int 2), (.ref b277), (.ref b277)]))
    obtain ⟨cl291, Ar291, aq291, aS291, aN291, aH291, aG291⟩ := id V_290
    have hin291 := inb_of (j := (2 : Int32)) aS291 ⟨by decide, by decide⟩
    obtain ⟨T292, h292, X292, e292, W292, st292⟩ := stI X287 hx hZ e287 Ar291 (j := (2 : Int32)) hin291 (g := (mkF m 96 #[iv p1, iv p2, iv p3, iv p4, iv p5, iv 3, iv vv, rv b262, .unset, .unset, .unset, .unset, .unset, .unset, .unset, .unset] [(.int (p4 + (2 : Int32))), (.int 2), (.ref b277), (.ref b277)])) rfl rfl (hb hby at_96)
    have O_293 := O_288.wr W292 g_b277
    have V_294 := V_289.other W292 ne_b262_b277
    have K292 := K287.wr W292 (Or.inr sz_b277)
    have N292 := Fr.snoc X292 N287 g_b277
    have V_295 : Arv Z h292 b277 k277 .int (4 : Int32) [(.int p4), (.int (p4 + (1 : Int32))), (.int (p4 + (2 : Int32))), (.int 0)] (.int 0) := Arv.set Ar291 aq291 aS291 aN291 aH291 aG291 rfl W292 2 rfl (Nat.le_of_ble_eq_true rfl)
    refine Goes.on (fun t k => st292 t k) ?_
    show Goes p e below QQ (T292.setTop (mkF m 97 #[iv p1, iv p2, iv p3, iv p4, iv p5, iv 3, iv vv, rv b262, .unset, .unset, .unset, .unset, .unset, .unset, .unset, .unset] [(.ref b277)]))
    refine Goes.on (fun t k => XS.dup X292.here hx rfl (hb hby at_97) rfl rfl k) ?_
    show Goes p e below QQ (T292.setTop (mkF m 98 #[iv p1, iv p2, iv p3, iv p4, iv p5, iv 3, iv vv, rv b262, .unset, .unset, .unset, .unset, .unset, .unset, .unset, .unset] [(.ref b277), (.ref b277)]))
    refine Goes.on (fun t k => XS.iconst X292.here hx rfl (hb hby at_98) k) ?_
    show Goes p e below QQ (T292.setTop (mkF m 99 #[iv p1, iv p2, iv p3, iv p4, iv p5, iv 3, iv vv, rv b262, .unset, .unset, .unset, .unset, .unset, .unset, .unset, .unset] [(.int 3), (.ref b277), (.ref b277)]))
    refine Goes.on (fun t k => XS.iloadN X292.here hx rfl (hb hby at_99) rfl k) ?_
    show Goes p e below QQ (T292.setTop (mkF m 100 #[iv p1, iv p2, iv p3, iv p4, iv p5, iv 3, iv vv, rv b262, .unset, .unset, .unset, .unset, .unset, .unset, .unset, .unset] [(.int p4), (.int 3), (.ref b277), (.ref b277)]))
    refine Goes.on (fun t k => XS.iconst X292.here hx rfl (hb hby at_100) k) ?_
    show Goes p e below QQ (T292.setTop (mkF m 101 #[iv p1, iv p2, iv p3, iv p4, iv p5, iv 3, iv vv, rv b262, .unset, .unset, .unset, .unset, .unset, .unset, .unset, .unset] [(.int 3), (.int p4), (.int 3), (.ref b277), (.ref b277)]))
    refine Goes.on (fun t k => XS.iadd X292.here hx rfl (hb hby at_101) rfl k) ?_
    show Goes p e below QQ (T292.setTop (mkF m 102 #[iv p1, iv p2, iv p3, iv p4, iv p5, iv 3, iv vv, rv b262, .unset, .unset, .unset, .unset, .unset, .unset, .unset, .unset] [(.int (p4 + (3 : Int32))), (.int 3), (.ref b277), (.ref b277)]))
    obtain ⟨cl296, Ar296, aq296, aS296, aN296, aH296, aG296⟩ := id V_295
    have hin296 := inb_of (j := (3 : Int32)) aS296 ⟨by decide, by decide⟩
    obtain ⟨T297, h297, X297, e297, W297, st297⟩ := stI X292 hx hZ e292 Ar296 (j := (3 : Int32)) hin296 (g := (mkF m 102 #[iv p1, iv p2, iv p3, iv p4, iv p5, iv 3, iv vv, rv b262, .unset, .unset, .unset, .unset, .unset, .unset, .unset, .unset] [(.int (p4 + (3 : Int32))), (.int 3), (.ref b277), (.ref b277)])) rfl rfl (hb hby at_102)
    have O_298 := O_293.wr W297 g_b277
    have V_299 := V_294.other W297 ne_b262_b277
    have K297 := K292.wr W297 (Or.inr sz_b277)
    have N297 := Fr.snoc X297 N292 g_b277
    have V_300 : Arv Z h297 b277 k277 .int (4 : Int32) [(.int p4), (.int (p4 + (1 : Int32))), (.int (p4 + (2 : Int32))), (.int (p4 + (3 : Int32)))] (.int 0) := Arv.set Ar296 aq296 aS296 aN296 aH296 aG296 rfl W297 3 rfl (Nat.le_of_ble_eq_true rfl)
    refine Goes.on (fun t k => st297 t k) ?_
    show Goes p e below QQ (T297.setTop (mkF m 103 #[iv p1, iv p2, iv p3, iv p4, iv p5, iv 3, iv vv, rv b262, .unset, .unset, .unset, .unset, .unset, .unset, .unset, .unset] [(.ref b277)]))
    refine Goes.on (fun t k => XS.astore X297.here hx rfl (hb hby at_103) rfl rfl (l' := #[iv p1, iv p2, iv p3, iv p4, iv p5, iv 3, iv vv, rv b262, rv b277, .unset, .unset, .unset, .unset, .unset, .unset, .unset]) rfl k) ?_
    show Goes p e below QQ (T297.setTop (mkF m 105 #[iv p1, iv p2, iv p3, iv p4, iv p5, iv 3, iv vv, rv b262, rv b277, .unset, .unset, .unset, .unset, .unset, .unset, .unset] []))
    obtain ⟨rs0, hrs0⟩ : ∃ z : List Value, z = [(.int p4), (.int (p4 + (1 : Int32))), (.int (p4 + (2 : Int32))), (.int (p4 + (3 : Int32)))] := ⟨_, rfl⟩
    have V_301 := V_300
    rw [← hrs0] at V_301
    show Goes p e below QQ (T297.setTop (mkF m 105 #[iv p1, iv p2, iv p3, iv p4, iv p5, iv 3, iv vv, rv b262, rv b277, .unset, .unset, .unset, .unset, .unset, .unset, .unset] []))
    obtain ⟨T302, h302, X302, e302, E302, A302, D302, -, st302⟩ := newO X297 hx hZ hown (hw _ (List.mem_of_getElem? (i := 1) rfl)) (hw _ (List.mem_of_getElem? (i := 2) rfl)) (hw _ (List.mem_of_getElem? (i := 3) rfl)) e297 (g := (mkF m 105 #[iv p1, iv p2, iv p3, iv p4, iv p5, iv 3, iv vv, rv b262, rv b277, .unset, .unset, .unset, .unset, .unset, .unset, .unset] [])) rfl (hb hby at_105) (by decide) (by decide)
    obtain ⟨b302, g302⟩ : ∃ z, z = h297.size := ⟨_, rfl⟩
    rw [← g302] at A302 D302 st302
    have sz_b302 : h0.size ≤ b302 := Nat.le_trans K297.1 (Nat.le_of_eq g302.symm)
    have g_b302 : n0 ≤ b302 := Nat.le_trans Z0 sz_b302
    have ne_b262_b302 : b262 ≠ b302 := Nat.ne_of_lt (Nat.lt_of_lt_of_le V_299.lt (Nat.le_of_eq g302.symm))
    have ne_b277_b302 : b277 ≠ b302 := Nat.ne_of_lt (Nat.lt_of_lt_of_le V_301.lt (Nat.le_of_eq g302.symm))
    have O_303 := O_298.ext E302
    have V_304 := V_299.ext E302
    have V_305 := V_301.ext E302
    have K302 := K297.ext E302
    have F_306 : Fld Z h302 b302 "com/example/clew/clew/algebra/Step" "tests" "Ljava/util/List;" .null := D302 (Or.inr (hw _ (List.mem_of_getElem? (i := 40) rfl))) (ty := (.object "java/util/List")) (by decide)
    have F_307 : Fld Z h302 b302 "com/example/clew/clew/algebra/Step" "variables" "[I" .null := D302 (Or.inr (hw _ (List.mem_of_getElem? (i := 42) rfl))) (ty := (.array .int)) (by decide)
    have F_308 : Fld Z h302 b302 "com/example/clew/clew/algebra/Step$Members" "members" "[I" .null := D302 (Or.inr (hw _ (List.mem_of_getElem? (i := 44) rfl))) (ty := (.array .int)) (by decide)
    have F_309 : Fld Z h302 b302 "com/example/clew/clew/algebra/Step$Members" "variable" "I" (.int 0) := D302 (Or.inr (hw _ (List.mem_of_getElem? (i := 46) rfl))) (ty := .int) (by decide)
    have F_310 : Fld Z h302 b302 "com/example/clew/clew/algebra/Step$Members" "next" "I" (.int 0) := D302 (Or.inl (hw _ (List.mem_of_getElem? (i := 53) rfl))) (ty := .int) (by decide)
    have F_311 : Fld Z h302 b302 "com/example/clew/clew/algebra/Step$Members" "end" "I" (.int 0) := D302 (Or.inl (hw _ (List.mem_of_getElem? (i := 55) rfl))) (ty := .int) (by decide)
    have F_312 : Fld Z h302 b302 "com/example/clew/clew/algebra/Step$Members" "bound" "Z" (.int 0) := D302 (Or.inl (hw _ (List.mem_of_getElem? (i := 57) rfl))) (ty := .boolean) (by decide)
    refine Goes.on (fun t k => st302 t k) ?_
    show Goes p e below QQ (T302.setTop (mkF m 108 #[iv p1, iv p2, iv p3, iv p4, iv p5, iv 3, iv vv, rv b262, rv b277, .unset, .unset, .unset, .unset, .unset, .unset, .unset] [(.ref b302)]))
    refine Goes.on (fun t k => XS.dup X302.here hx rfl (hb hby at_108) rfl rfl k) ?_
    show Goes p e below QQ (T302.setTop (mkF m 109 #[iv p1, iv p2, iv p3, iv p4, iv p5, iv 3, iv vv, rv b262, rv b277, .unset, .unset, .unset, .unset, .unset, .unset, .unset] [(.ref b302), (.ref b302)]))
    refine Goes.on (fun t k => XS.aload X302.here hx rfl (hb hby at_109) rfl rfl k) ?_
    show Goes p e below QQ (T302.setTop (mkF m 111 #[iv p1, iv p2, iv p3, iv p4, iv p5, iv 3, iv vv, rv b262, rv b277, .unset, .unset, .unset, .unset, .unset, .unset, .unset] [(.ref b262), (.ref b302), (.ref b302)]))
    refine Goes.on (fun t k => XS.iload X302.here hx rfl (hb hby at_111) rfl k) ?_
    show Goes p e below QQ (T302.setTop (mkF m 113 #[iv p1, iv p2, iv p3, iv p4, iv p5, iv 3, iv vv, rv b262, rv b277, .unset, .unset, .unset, .unset, .unset, .unset, .unset] [(.int vv), (.ref b262), (.ref b302), (.ref b302)]))
    obtain ⟨_, _, ⟨T313, L313, k313, n313⟩, -, X313, ⟨Lc313, hQ313, l313, y313, z313⟩, st313⟩ := X302.specialBack hx (y := (⟨"com/example/clew/clew/algebra/Step$Members", "<init>", "([II)V"⟩ : MethodName)) rfl hown (mvT hZ (hw _ (List.mem_of_getElem? (i := 4) rfl))) (mvT hZ (hw _ (List.mem_of_getElem? (i := 5) rfl))) (mvT hZ (hw _ (List.mem_of_getElem? (i := 6) rfl))) (by decide) (backOf (W := 1) (rmMe l Z a0 hw [] b302 b262 vv xD h302 n0 (Nat.le_trans Z0 K302.1) A302 F_306 F_307 F_308 F_309 F_310 F_311 F_312 g_b302 S_DEFAULTCAPACITY_EMPTY_ELEMENTDATA O_303) hZ (hw _ (List.mem_of_getElem? (i := 6) rfl)) (hw _ (List.mem_of_getElem? (i := 3) rfl)) (by decide) (by decide)) (g := (mkF m 113 #[iv p1, iv p2, iv p3, iv p4, iv p5, iv 3, iv vv, rv b262, rv b277, .unset, .unset, .unset, .unset, .unset, .unset, .unset] [(.int vv), (.ref b262), (.ref b302), (.ref b302)])) rfl (by rw [hml]; rfl) (Steps.refl _) (a := b302) (argsL := [(.ref b262), (.int vv)]) (rest := [(.ref b302)]) (lenOf pd_4 rfl) rfl (by show 2 * 0 + _ ≤ _; exact Nat.le_of_eq rfl) (hb hby at_113) (fun _ _ => ⟨rfl, e302, (by decide : 3 + 2 ≤ _), (by decide : 14 + 4 ≤ _)⟩)
    dsimp only [Pt.U, Pt.locs, Pt.cells, Pt.slots] at X313 l313 y313 z313 st313 hQ313
    subst l313 y313 z313
    obtain ⟨rfl, M313, Kb1, ⟨members_m, variable_m, next_m, end_m, bound_m⟩⟩ := hQ313
    have N313 := Fr.app N297 M313
    refine Goes.on (fun t k => st313.trans k) ?_
    have O_314 := O_303.keep Kb1 (allS g_b302 all0)
    have V_315 := V_304.keep Kb1 (ninS ne_b262_b302 nin0)
    have V_316 := V_305.keep Kb1 (ninS ne_b277_b302 nin0)
    have A302_317 := A302.keep Kb1
    have K325 := K302.trans Kb1 (allS (Or.inr sz_b302) all0)
    show Goes p e below QQ (T313.setTop (mkF m 116 #[iv p1, iv p2, iv p3, iv p4, iv p5, iv 3, iv vv, rv b262, rv b277, .unset, .unset, .unset, .unset, .unset, .unset, .unset] [(.ref b302)]))
    refine Goes.on (fun t k => XS.astore X313.here hx rfl (hb hby at_116) rfl rfl (l' := #[iv p1, iv p2, iv p3, iv p4, iv p5, iv 3, iv vv, rv b262, rv b277, rv b302, .unset, .unset, .unset, .unset, .unset, .unset]) rfl k) ?_
    show Goes p e below QQ (T313.setTop (mkF m 118 #[iv p1, iv p2, iv p3, iv p4, iv p5, iv 3, iv vv, rv b262, rv b277, rv b302, .unset, .unset, .unset, .unset, .unset, .unset] []))
    refine Goes.on (fun t k => XS.aload X313.here hx rfl (hb hby at_118) rfl rfl k) ?_
    show Goes p e below QQ (T313.setTop (mkF m 120 #[iv p1, iv p2, iv p3, iv p4, iv p5, iv 3, iv vv, rv b262, rv b277, rv b302, .unset, .unset, .unset, .unset, .unset, .unset] [(.ref b302)]))
    refine Goes.on (fun t k => XS.aload X313.here hx rfl (hb hby at_120) rfl rfl k) ?_
    show Goes p e below QQ (T313.setTop (mkF m 122 #[iv p1, iv p2, iv p3, iv p4, iv p5, iv 3, iv vv, rv b262, rv b277, rv b302, .unset, .unset, .unset, .unset, .unset, .unset] [(.ref b277), (.ref b302)]))
    obtain ⟨cq326, kq326, q326a, q326b, q326c⟩ := isOf hZ rfl A302_317
    obtain ⟨_, _, ⟨T326, L326, k326, n326⟩, -, X326, ⟨Lc326, hQ326, l326, y326, z326⟩, st326⟩ := X313.virtualBack hx (y := (⟨"com/example/clew/clew/algebra/Step$Members", "start", "([I)V"⟩ : MethodName)) (z := (⟨"com/example/clew/clew/algebra/Step$Members", "start", "([I)V"⟩ : MethodName)) hown (mvT hZ (hw _ (List.mem_of_getElem? (i := 47) rfl))) (mvT hZ (hw _ (List.mem_of_getElem? (i := 48) rfl))) (notFace_of_selects (args := #[]) (mvT hZ (hw _ (List.mem_of_getElem? (i := 50) rfl)))) (mvT hZ (hw _ (List.mem_of_getElem? (i := 50) rfl))) (mvT hZ (hw _ (List.mem_of_getElem? (i := 49) rfl))) (by decide) (backOf (W := 0) (rmSa l Z a0 hw [] b302 b277 b262 vv k262 (3 : Int32) [(.int p1), (.int p2), (.int p3)] T313.heap n0 (Nat.le_trans Z0 K325.1) A302_317 members_m variable_m next_m end_m bound_m V_315 g_b302 ne_b262_b302) hZ (hw _ (List.mem_of_getElem? (i := 51) rfl)) (hw _ (List.mem_of_getElem? (i := 3) rfl)) (by decide) (by decide)) q326a q326c (g := (mkF m 122 #[iv p1, iv p2, iv p3, iv p4, iv p5, iv 3, iv vv, rv b262, rv b277, rv b302, .unset, .unset, .unset, .unset, .unset, .unset] [(.ref b277), (.ref b302)])) rfl (by rw [hml]; rfl) (Steps.refl _) (argsL := [(.ref b277)]) (rest := []) (lenOf pd_1 rfl) rfl (by show 2 * 0 + _ ≤ _; exact Nat.le_of_eq rfl) (hb hby at_122) (fun _ _ => ⟨rfl, rfl, (by decide : 5 + 0 ≤ _), (by decide : 18 + 0 ≤ _)⟩)
    dsimp only [Pt.U, Pt.locs, Pt.cells, Pt.slots] at X326 l326 y326 z326 st326 hQ326
    subst l326 y326 z326
    obtain ⟨rfl, M326, Kb2, ⟨members_t, variable_t, next_t, end_t, bound_t⟩⟩ := hQ326
    have N326 := Fr.app N313 M326
    refine Goes.on (fun t k => st326.trans k) ?_
    have O_327 := O_314.keep Kb2 (allS g_b302 all0)
    have V_328 := V_315.keep Kb2 (ninS ne_b262_b302 nin0)
    have V_329 := V_316.keep Kb2 (ninS ne_b277_b302 nin0)
    have A302_330 := A302_317.keep Kb2
    have K336 := K325.trans Kb2 (allS (Or.inr sz_b302) all0)
    show Goes p e below QQ (T326.setTop (mkF m 125 #[iv p1, iv p2, iv p3, iv p4, iv p5, iv 3, iv vv, rv b262, rv b277, rv b302, .unset, .unset, .unset, .unset, .unset, .unset] []))
    refine Goes.on (fun t k => XS.iconst X326.here hx rfl (hb hby at_125) k) ?_
    show Goes p e below QQ (T326.setTop (mkF m 126 #[iv p1, iv p2, iv p3, iv p4, iv p5, iv 3, iv vv, rv b262, rv b277, rv b302, .unset, .unset, .unset, .unset, .unset, .unset] [(.int 1)]))
    refine Goes.on (fun t k => XS.istore X326.here hx rfl (hb hby at_126) rfl (l' := #[iv p1, iv p2, iv p3, iv p4, iv p5, iv 3, iv vv, rv b262, rv b277, rv b302, iv 1, .unset, .unset, .unset, .unset, .unset]) rfl k) ?_
    show Goes p e below QQ (T326.setTop (mkF m 128 #[iv p1, iv p2, iv p3, iv p4, iv p5, iv 3, iv vv, rv b262, rv b277, rv b302, iv 1, .unset, .unset, .unset, .unset, .unset] []))
    refine Goes.on (fun t k => XS.aload X326.here hx rfl (hb hby at_128) rfl rfl k) ?_
    show Goes p e below QQ (T326.setTop (mkF m 130 #[iv p1, iv p2, iv p3, iv p4, iv p5, iv 3, iv vv, rv b262, rv b277, rv b302, iv 1, .unset, .unset, .unset, .unset, .unset] [(.ref b302)]))
    refine Goes.on (fun t k => XS.aload X326.here hx rfl (hb hby at_130) rfl rfl k) ?_
    show Goes p e below QQ (T326.setTop (mkF m 132 #[iv p1, iv p2, iv p3, iv p4, iv p5, iv 3, iv vv, rv b262, rv b277, rv b302, iv 1, .unset, .unset, .unset, .unset, .unset] [(.ref b277), (.ref b302)]))
    obtain ⟨cq337, kq337, q337a, q337b, q337c⟩ := isOf hZ rfl A302_330
    obtain ⟨_, _, ⟨T337, L337, k337, n337⟩, -, X337, ⟨Lc337, hQ337, l337, y337, z337⟩, st337⟩ := X326.virtualBack hx (y := (⟨"com/example/clew/clew/algebra/Step$Members", "advance", "([I)Z"⟩ : MethodName)) (z := (⟨"com/example/clew/clew/algebra/Step$Members", "advance", "([I)Z"⟩ : MethodName)) hown (mvT hZ (hw _ (List.mem_of_getElem? (i := 58) rfl))) (mvT hZ (hw _ (List.mem_of_getElem? (i := 59) rfl))) (notFace_of_selects (args := #[]) (mvT hZ (hw _ (List.mem_of_getElem? (i := 61) rfl)))) (mvT hZ (hw _ (List.mem_of_getElem? (i := 61) rfl))) (mvT hZ (hw _ (List.mem_of_getElem? (i := 60) rfl))) (by decide) (backOf (W := 0) (rmYe l Z a0 hw [] b302 b277 b262 (0 : Int32) (3 : Int32) vv k262 (3 : Int32) [(.int p1), (.int p2), (.int p3)] k277 rs0 p1 T326.heap n0 (Nat.le_trans Z0 K336.1) A302_330 members_t variable_t next_t end_t bound_t V_328 V_329 g_b302 g_b277 ne_b262_b302 ne_b262_b277 (Ne.symm ne_b277_b302) (by decide) ⟨by decide, by decide⟩ rfl (by rcases hv4 with rfl | rfl | rfl | rfl <;> exact ⟨by decide, by decide⟩) (by subst hrs0; rcases hv4 with rfl | rfl | rfl | rfl <;> exact Nat.le_of_ble_eq_true rfl)) hZ (hw _ (List.mem_of_getElem? (i := 62) rfl)) (hw _ (List.mem_of_getElem? (i := 3) rfl)) (by decide) (by decide)) q337a q337c (g := (mkF m 132 #[iv p1, iv p2, iv p3, iv p4, iv p5, iv 3, iv vv, rv b262, rv b277, rv b302, iv 1, .unset, .unset, .unset, .unset, .unset] [(.ref b277), (.ref b302)])) rfl (by rw [hml]; rfl) (Steps.refl _) (argsL := [(.ref b277)]) (rest := []) (lenOf pd_5 rfl) rfl (by show 2 * 0 + _ ≤ _; exact Nat.le_of_eq rfl) (hb hby at_132) (fun _ _ => ⟨rfl, rfl, (by decide : 5 + 0 ≤ _), (by decide : 18 + 0 ≤ _)⟩)
    dsimp only [Pt.U, Pt.locs, Pt.cells, Pt.slots] at X337 l337 y337 z337 st337 hQ337
    subst l337 y337 z337
    obtain ⟨rfl, M337, Kcy0, ⟨members_y0, variable_y0, next_y0, end_y0, bound_y0⟩, Vry0⟩ := hQ337
    have N337 := Fr.app N326 M337
    refine Goes.on (fun t k => st337.trans k) ?_
    have O_338 := O_327.keep Kcy0 (allS g_b302 (allS g_b277 all0))
    have V_339 := V_328.keep Kcy0 (ninS ne_b262_b302 (ninS ne_b262_b277 nin0))
    have A302_341 := A302_330.keep Kcy0
    have K347 := K336.trans Kcy0 (allS (Or.inr sz_b302) (allS (Or.inr sz_b277) all0))
    show Goes p e below QQ (T337.setTop (mkF m 135 #[iv p1, iv p2, iv p3, iv p4, iv p5, iv 3, iv vv, rv b262, rv b277, rv b302, iv 1, .unset, .unset, .unset, .unset, .unset] [(.int 1)]))
    rw [(by decide : ((0 : Int32) + (1 : Int32)) = (1 : Int32))] at next_y0
    show Goes p e below QQ (T337.setTop (mkF m 135 #[iv p1, iv p2, iv p3, iv p4, iv p5, iv 3, iv vv, rv b262, rv b277, rv b302, iv 1, .unset, .unset, .unset, .unset, .unset] [(.int 1)]))
    refine Goes.on (fun t k => XS.istore X337.here hx rfl (hb hby at_135) rfl (l' := #[iv p1, iv p2, iv p3, iv p4, iv p5, iv 3, iv vv, rv b262, rv b277, rv b302, iv 1, iv 1, .unset, .unset, .unset, .unset]) rfl k) ?_
    show Goes p e below QQ (T337.setTop (mkF m 137 #[iv p1, iv p2, iv p3, iv p4, iv p5, iv 3, iv vv, rv b262, rv b277, rv b302, iv 1, iv 1, .unset, .unset, .unset, .unset] []))
    refine Goes.on (fun t k => XS.iload X337.here hx rfl (hb hby at_137) rfl k) ?_
    show Goes p e below QQ (T337.setTop (mkF m 139 #[iv p1, iv p2, iv p3, iv p4, iv p5, iv 3, iv vv, rv b262, rv b277, rv b302, iv 1, iv 1, .unset, .unset, .unset, .unset] [(.int 1)]))
    refine Goes.on (fun t k => XS.ifNo X337.here hx rfl (hb hby at_139) rfl ((if0 _ _).trans (feq (by decide)).1) k) ?_
    show Goes p e below QQ (T337.setTop (mkF m 142 #[iv p1, iv p2, iv p3, iv p4, iv p5, iv 3, iv vv, rv b262, rv b277, rv b302, iv 1, iv 1, .unset, .unset, .unset, .unset] []))
    refine Goes.on (fun t k => XS.iload X337.here hx rfl (hb hby at_142) rfl k) ?_
    show Goes p e below QQ (T337.setTop (mkF m 144 #[iv p1, iv p2, iv p3, iv p4, iv p5, iv 3, iv vv, rv b262, rv b277, rv b302, iv 1, iv 1, .unset, .unset, .unset, .unset] [(.int 1)]))
    refine Goes.on (fun t k => XS.aload X337.here hx rfl (hb hby at_144) rfl rfl k) ?_
    show Goes p e below QQ (T337.setTop (mkF m 146 #[iv p1, iv p2, iv p3, iv p4, iv p5, iv 3, iv vv, rv b262, rv b277, rv b302, iv 1, iv 1, .unset, .unset, .unset, .unset] [(.ref b277), (.int 1)]))
    refine Goes.on (fun t k => XS.iconst X337.here hx rfl (hb hby at_146) k) ?_
    show Goes p e below QQ (T337.setTop (mkF m 147 #[iv p1, iv p2, iv p3, iv p4, iv p5, iv 3, iv vv, rv b262, rv b277, rv b302, iv 1, iv 1, .unset, .unset, .unset, .unset] [(.int 0), (.ref b277), (.int 1)]))
    refine Goes.on (fun t k => XS.iload X337.here hx rfl (hb hby at_147) rfl k) ?_
    show Goes p e below QQ (T337.setTop (mkF m 149 #[iv p1, iv p2, iv p3, iv p4, iv p5, iv 3, iv vv, rv b262, rv b277, rv b302, iv 1, iv 1, .unset, .unset, .unset, .unset] [(.int 3), (.int 0), (.ref b277), (.int 1)]))
    refine Goes.on (fun t k => XS.iload X337.here hx rfl (hb hby at_149) rfl k) ?_
    show Goes p e below QQ (T337.setTop (mkF m 151 #[iv p1, iv p2, iv p3, iv p4, iv p5, iv 3, iv vv, rv b262, rv b277, rv b302, iv 1, iv 1, .unset, .unset, .unset, .unset] [(.int vv), (.int 3), (.int 0), (.ref b277), (.int 1)]))
    refine Goes.on (fun t k => XS.iloadN X337.here hx rfl (hb hby at_151) rfl k) ?_
    show Goes p e below QQ (T337.setTop (mkF m 152 #[iv p1, iv p2, iv p3, iv p4, iv p5, iv 3, iv vv, rv b262, rv b277, rv b302, iv 1, iv 1, .unset, .unset, .unset, .unset] [(.int p1), (.int vv), (.int 3), (.int 0), (.ref b277), (.int 1)]))
    refine Goes.on (fun t k => XS.iloadN X337.here hx rfl (hb hby at_152) rfl k) ?_
    show Goes p e below QQ (T337.setTop (mkF m 153 #[iv p1, iv p2, iv p3, iv p4, iv p5, iv 3, iv vv, rv b262, rv b277, rv b302, iv 1, iv 1, .unset, .unset, .unset, .unset] [(.int p2), (.int p1), (.int vv), (.int 3), (.int 0), (.ref b277), (.int 1)]))
    refine Goes.on (fun t k => XS.iloadN X337.here hx rfl (hb hby at_153) rfl k) ?_
    show Goes p e below QQ (T337.setTop (mkF m 154 #[iv p1, iv p2, iv p3, iv p4, iv p5, iv 3, iv vv, rv b262, rv b277, rv b302, iv 1, iv 1, .unset, .unset, .unset, .unset] [(.int p3), (.int p2), (.int p1), (.int vv), (.int 3), (.int 0), (.ref b277), (.int 1)]))
    refine Goes.on (fun t k => XS.iloadN X337.here hx rfl (hb hby at_154) rfl k) ?_
    show Goes p e below QQ (T337.setTop (mkF m 155 #[iv p1, iv p2, iv p3, iv p4, iv p5, iv 3, iv vv, rv b262, rv b277, rv b302, iv 1, iv 1, .unset, .unset, .unset, .unset] [(.int p4), (.int p3), (.int p2), (.int p1), (.int vv), (.int 3), (.int 0), (.ref b277), (.int 1)]))
    have Vq155 : Arv Z T337.heap b277 k277 .int (4 : Int32) ([(.int p4), (.int (p4 + (1 : Int32))), (.int (p4 + (2 : Int32))), (.int (p4 + (3 : Int32)))].set vv.toNatClampNeg (.int p1)) (.int (0 : Int32)) := (hrs0 ▸ Vry0)
    obtain ⟨_, _, ⟨T348, L348, k348, n348⟩, -, X348, ⟨Lc348, hQ348, l348, y348, z348⟩, st348⟩ := Jvm.LawKit.callS X337 hx (y := (⟨"com/example/clew/clew/algebra/MembersAdvancePinLaw", "stepOk", "(Z[IIIIIIII)Z"⟩ : MethodName)) hown (mvT hZ (hw _ (List.mem_of_getElem? (i := 63) rfl))) (mvT hZ (hw _ (List.mem_of_getElem? (i := 64) rfl))) (mvT hZ (hw _ (List.mem_of_getElem? (i := 65) rfl))) (mvT hZ (hw _ (List.mem_of_getElem? (i := 66) rfl))) (by decide) (backOf (W := 0) (rmSO l Z a0 hw [] (1 : Int32) b277 (0 : Int32) (3 : Int32) vv p1 p2 p3 p4 k277 p1 T337.heap n0 (Nat.le_trans Z0 K347.1) Vq155 hv4 (by decide) (by first | rfl | simp [expF])) hZ (hw _ (List.mem_of_getElem? (i := 66) rfl)) (hw _ (List.mem_of_getElem? (i := 65) rfl)) (by decide) (by decide)) (g := (mkF m 155 #[iv p1, iv p2, iv p3, iv p4, iv p5, iv 3, iv vv, rv b262, rv b277, rv b302, iv 1, iv 1, .unset, .unset, .unset, .unset] [(.int p4), (.int p3), (.int p2), (.int p1), (.int vv), (.int 3), (.int 0), (.ref b277), (.int 1)])) rfl (by rw [hml]; rfl) (argsL := [(.int 1), (.ref b277), (.int 0), (.int 3), (.int vv), (.int p1), (.int p2), (.int p3), (.int p4)]) (rest := []) (lenOf pd_6 rfl) rfl (by show 2 * 0 + _ ≤ _; exact Nat.le_of_eq rfl) (hb hby at_155) (fun _ _ => ⟨rfl, rfl, (by decide : 5 + 0 ≤ _), (by decide : 18 + 0 ≤ _)⟩)
    dsimp only [Pt.U, Pt.locs, Pt.cells, Pt.slots] at X348 l348 y348 z348 st348 hQ348
    subst l348 y348 z348
    obtain ⟨rfl, M348, e348⟩ := hQ348
    have N348 := Fr.app N337 M348
    refine Goes.on (fun t k => st348 _ k) ?_
    show Goes p e below QQ (T348.setTop (mkF m 158 #[iv p1, iv p2, iv p3, iv p4, iv p5, iv 3, iv vv, rv b262, rv b277, rv b302, iv 1, iv 1, .unset, .unset, .unset, .unset] [(.int 1)]))
    refine Goes.on (fun t k => XS.ifNo X348.here hx rfl (hb hby at_158) rfl ((if0 _ _).trans (feq (by decide)).1) k) ?_
    show Goes p e below QQ (T348.setTop (mkF m 161 #[iv p1, iv p2, iv p3, iv p4, iv p5, iv 3, iv vv, rv b262, rv b277, rv b302, iv 1, iv 1, .unset, .unset, .unset, .unset] []))
    refine Goes.on (fun t k => XS.iconst X348.here hx rfl (hb hby at_161) k) ?_
    show Goes p e below QQ (T348.setTop (mkF m 162 #[iv p1, iv p2, iv p3, iv p4, iv p5, iv 3, iv vv, rv b262, rv b277, rv b302, iv 1, iv 1, .unset, .unset, .unset, .unset] [(.int 1)]))
    refine Goes.on (fun t k => XS.goto X348.here hx rfl (pc0 := 162) (pc' := 166) rfl (hb hby at_162) (by decide) (by decide) k) ?_
    show Goes p e below QQ (T348.setTop (mkF m 166 #[iv p1, iv p2, iv p3, iv p4, iv p5, iv 3, iv vv, rv b262, rv b277, rv b302, iv 1, iv 1, .unset, .unset, .unset, .unset] [(.int 1)]))
    refine Goes.on (fun t k => XS.istore X348.here hx rfl (hb hby at_166) rfl (l' := #[iv p1, iv p2, iv p3, iv p4, iv p5, iv 3, iv vv, rv b262, rv b277, rv b302, iv 1, iv 1, .unset, .unset, .unset, .unset]) rfl k) ?_
    show Goes p e below QQ (T348.setTop (mkF m 168 #[iv p1, iv p2, iv p3, iv p4, iv p5, iv 3, iv vv, rv b262, rv b277, rv b302, iv 1, iv 1, .unset, .unset, .unset, .unset] []))
    refine Goes.on (fun t k => XS.aload X348.here hx rfl (hb hby at_168) rfl rfl k) ?_
    show Goes p e below QQ (T348.setTop (mkF m 170 #[iv p1, iv p2, iv p3, iv p4, iv p5, iv 3, iv vv, rv b262, rv b277, rv b302, iv 1, iv 1, .unset, .unset, .unset, .unset] [(.ref b302)]))
    refine Goes.on (fun t k => XS.aload X348.here hx rfl (hb hby at_170) rfl rfl k) ?_
    show Goes p e below QQ (T348.setTop (mkF m 172 #[iv p1, iv p2, iv p3, iv p4, iv p5, iv 3, iv vv, rv b262, rv b277, rv b302, iv 1, iv 1, .unset, .unset, .unset, .unset] [(.ref b277), (.ref b302)]))
    obtain ⟨cq349, kq349, q349a, q349b, q349c⟩ := isOf hZ e348 A302_341
    obtain ⟨_, _, ⟨T349, L349, k349, n349⟩, -, X349, ⟨Lc349, hQ349, l349, y349, z349⟩, st349⟩ := X348.virtualBack hx (y := (⟨"com/example/clew/clew/algebra/Step$Members", "advance", "([I)Z"⟩ : MethodName)) (z := (⟨"com/example/clew/clew/algebra/Step$Members", "advance", "([I)Z"⟩ : MethodName)) hown (mvT hZ (hw _ (List.mem_of_getElem? (i := 58) rfl))) (mvT hZ (hw _ (List.mem_of_getElem? (i := 59) rfl))) (notFace_of_selects (args := #[]) (mvT hZ (hw _ (List.mem_of_getElem? (i := 61) rfl)))) (mvT hZ (hw _ (List.mem_of_getElem? (i := 61) rfl))) (mvT hZ (hw _ (List.mem_of_getElem? (i := 60) rfl))) (by decide) (backOf (W := 0) (rmYe l Z a0 hw [] b302 b277 b262 (1 : Int32) (3 : Int32) vv k262 (3 : Int32) [(.int p1), (.int p2), (.int p3)] k277 (rs0.set vv.toNatClampNeg (.int p1)) p2 T337.heap n0 (Nat.le_trans Z0 K347.1) A302_341 members_y0 variable_y0 next_y0 end_y0 bound_y0 V_339 Vry0 g_b302 g_b277 ne_b262_b302 ne_b262_b277 (Ne.symm ne_b277_b302) (by decide) ⟨by decide, by decide⟩ rfl (by rcases hv4 with rfl | rfl | rfl | rfl <;> exact ⟨by decide, by decide⟩) (by subst hrs0; rcases hv4 with rfl | rfl | rfl | rfl <;> exact Nat.le_of_ble_eq_true rfl)) hZ (hw _ (List.mem_of_getElem? (i := 62) rfl)) (hw _ (List.mem_of_getElem? (i := 3) rfl)) (by decide) (by decide)) q349a q349c (g := (mkF m 172 #[iv p1, iv p2, iv p3, iv p4, iv p5, iv 3, iv vv, rv b262, rv b277, rv b302, iv 1, iv 1, .unset, .unset, .unset, .unset] [(.ref b277), (.ref b302)])) rfl (by rw [hml]; rfl) (Steps.refl _) (argsL := [(.ref b277)]) (rest := []) (lenOf pd_5 rfl) rfl (by show 2 * 0 + _ ≤ _; exact Nat.le_of_eq rfl) (hb hby at_172) (fun _ _ => ⟨rfl, e348, (by decide : 5 + 0 ≤ _), (by decide : 18 + 0 ≤ _)⟩)
    dsimp only [Pt.U, Pt.locs, Pt.cells, Pt.slots] at X349 l349 y349 z349 st349 hQ349
    subst l349 y349 z349
    obtain ⟨rfl, M349, Kcy1, ⟨members_y1, variable_y1, next_y1, end_y1, bound_y1⟩, Vry1⟩ := hQ349
    have N349 := Fr.app N348 M349
    refine Goes.on (fun t k => st349.trans k) ?_
    have O_350 := O_338.keep Kcy1 (allS g_b302 (allS g_b277 all0))
    have V_351 := V_339.keep Kcy1 (ninS ne_b262_b302 (ninS ne_b262_b277 nin0))
    have A302_352 := A302_341.keep Kcy1
    have K359 := K347.trans Kcy1 (allS (Or.inr sz_b302) (allS (Or.inr sz_b277) all0))
    show Goes p e below QQ (T349.setTop (mkF m 175 #[iv p1, iv p2, iv p3, iv p4, iv p5, iv 3, iv vv, rv b262, rv b277, rv b302, iv 1, iv 1, .unset, .unset, .unset, .unset] [(.int 1)]))
    rw [(by decide : ((1 : Int32) + (1 : Int32)) = (2 : Int32))] at next_y1
    rw [List.set_set] at Vry1
    show Goes p e below QQ (T349.setTop (mkF m 175 #[iv p1, iv p2, iv p3, iv p4, iv p5, iv 3, iv vv, rv b262, rv b277, rv b302, iv 1, iv 1, .unset, .unset, .unset, .unset] [(.int 1)]))
    refine Goes.on (fun t k => XS.istore X349.here hx rfl (hb hby at_175) rfl (l' := #[iv p1, iv p2, iv p3, iv p4, iv p5, iv 3, iv vv, rv b262, rv b277, rv b302, iv 1, iv 1, iv 1, .unset, .unset, .unset]) rfl k) ?_
    show Goes p e below QQ (T349.setTop (mkF m 177 #[iv p1, iv p2, iv p3, iv p4, iv p5, iv 3, iv vv, rv b262, rv b277, rv b302, iv 1, iv 1, iv 1, .unset, .unset, .unset] []))
    refine Goes.on (fun t k => XS.iload X349.here hx rfl (hb hby at_177) rfl k) ?_
    show Goes p e below QQ (T349.setTop (mkF m 179 #[iv p1, iv p2, iv p3, iv p4, iv p5, iv 3, iv vv, rv b262, rv b277, rv b302, iv 1, iv 1, iv 1, .unset, .unset, .unset] [(.int 1)]))
    refine Goes.on (fun t k => XS.ifNo X349.here hx rfl (hb hby at_179) rfl ((if0 _ _).trans (feq (by decide)).1) k) ?_
    show Goes p e below QQ (T349.setTop (mkF m 182 #[iv p1, iv p2, iv p3, iv p4, iv p5, iv 3, iv vv, rv b262, rv b277, rv b302, iv 1, iv 1, iv 1, .unset, .unset, .unset] []))
    refine Goes.on (fun t k => XS.iload X349.here hx rfl (hb hby at_182) rfl k) ?_
    show Goes p e below QQ (T349.setTop (mkF m 184 #[iv p1, iv p2, iv p3, iv p4, iv p5, iv 3, iv vv, rv b262, rv b277, rv b302, iv 1, iv 1, iv 1, .unset, .unset, .unset] [(.int 1)]))
    refine Goes.on (fun t k => XS.aload X349.here hx rfl (hb hby at_184) rfl rfl k) ?_
    show Goes p e below QQ (T349.setTop (mkF m 186 #[iv p1, iv p2, iv p3, iv p4, iv p5, iv 3, iv vv, rv b262, rv b277, rv b302, iv 1, iv 1, iv 1, .unset, .unset, .unset] [(.ref b277), (.int 1)]))
    refine Goes.on (fun t k => XS.iconst X349.here hx rfl (hb hby at_186) k) ?_
    show Goes p e below QQ (T349.setTop (mkF m 187 #[iv p1, iv p2, iv p3, iv p4, iv p5, iv 3, iv vv, rv b262, rv b277, rv b302, iv 1, iv 1, iv 1, .unset, .unset, .unset] [(.int 1), (.ref b277), (.int 1)]))
    refine Goes.on (fun t k => XS.iload X349.here hx rfl (hb hby at_187) rfl k) ?_
    show Goes p e below QQ (T349.setTop (mkF m 189 #[iv p1, iv p2, iv p3, iv p4, iv p5, iv 3, iv vv, rv b262, rv b277, rv b302, iv 1, iv 1, iv 1, .unset, .unset, .unset] [(.int 3), (.int 1), (.ref b277), (.int 1)]))
    refine Goes.on (fun t k => XS.iload X349.here hx rfl (hb hby at_189) rfl k) ?_
    show Goes p e below QQ (T349.setTop (mkF m 191 #[iv p1, iv p2, iv p3, iv p4, iv p5, iv 3, iv vv, rv b262, rv b277, rv b302, iv 1, iv 1, iv 1, .unset, .unset, .unset] [(.int vv), (.int 3), (.int 1), (.ref b277), (.int 1)]))
    refine Goes.on (fun t k => XS.iloadN X349.here hx rfl (hb hby at_191) rfl k) ?_
    show Goes p e below QQ (T349.setTop (mkF m 192 #[iv p1, iv p2, iv p3, iv p4, iv p5, iv 3, iv vv, rv b262, rv b277, rv b302, iv 1, iv 1, iv 1, .unset, .unset, .unset] [(.int p1), (.int vv), (.int 3), (.int 1), (.ref b277), (.int 1)]))
    refine Goes.on (fun t k => XS.iloadN X349.here hx rfl (hb hby at_192) rfl k) ?_
    show Goes p e below QQ (T349.setTop (mkF m 193 #[iv p1, iv p2, iv p3, iv p4, iv p5, iv 3, iv vv, rv b262, rv b277, rv b302, iv 1, iv 1, iv 1, .unset, .unset, .unset] [(.int p2), (.int p1), (.int vv), (.int 3), (.int 1), (.ref b277), (.int 1)]))
    refine Goes.on (fun t k => XS.iloadN X349.here hx rfl (hb hby at_193) rfl k) ?_
    show Goes p e below QQ (T349.setTop (mkF m 194 #[iv p1, iv p2, iv p3, iv p4, iv p5, iv 3, iv vv, rv b262, rv b277, rv b302, iv 1, iv 1, iv 1, .unset, .unset, .unset] [(.int p3), (.int p2), (.int p1), (.int vv), (.int 3), (.int 1), (.ref b277), (.int 1)]))
    refine Goes.on (fun t k => XS.iloadN X349.here hx rfl (hb hby at_194) rfl k) ?_
    show Goes p e below QQ (T349.setTop (mkF m 195 #[iv p1, iv p2, iv p3, iv p4, iv p5, iv 3, iv vv, rv b262, rv b277, rv b302, iv 1, iv 1, iv 1, .unset, .unset, .unset] [(.int p4), (.int p3), (.int p2), (.int p1), (.int vv), (.int 3), (.int 1), (.ref b277), (.int 1)]))
    have Vq195 : Arv Z T349.heap b277 k277 .int (4 : Int32) ([(.int p4), (.int (p4 + (1 : Int32))), (.int (p4 + (2 : Int32))), (.int (p4 + (3 : Int32)))].set vv.toNatClampNeg (.int p2)) (.int (0 : Int32)) := (hrs0 ▸ Vry1)
    obtain ⟨_, _, ⟨T360, L360, k360, n360⟩, -, X360, ⟨Lc360, hQ360, l360, y360, z360⟩, st360⟩ := Jvm.LawKit.callS X349 hx (y := (⟨"com/example/clew/clew/algebra/MembersAdvancePinLaw", "stepOk", "(Z[IIIIIIII)Z"⟩ : MethodName)) hown (mvT hZ (hw _ (List.mem_of_getElem? (i := 63) rfl))) (mvT hZ (hw _ (List.mem_of_getElem? (i := 64) rfl))) (mvT hZ (hw _ (List.mem_of_getElem? (i := 65) rfl))) (mvT hZ (hw _ (List.mem_of_getElem? (i := 66) rfl))) (by decide) (backOf (W := 0) (rmSO l Z a0 hw [] (1 : Int32) b277 (1 : Int32) (3 : Int32) vv p1 p2 p3 p4 k277 p2 T349.heap n0 (Nat.le_trans Z0 K359.1) Vq195 hv4 (by decide) (by first | rfl | simp [expF])) hZ (hw _ (List.mem_of_getElem? (i := 66) rfl)) (hw _ (List.mem_of_getElem? (i := 65) rfl)) (by decide) (by decide)) (g := (mkF m 195 #[iv p1, iv p2, iv p3, iv p4, iv p5, iv 3, iv vv, rv b262, rv b277, rv b302, iv 1, iv 1, iv 1, .unset, .unset, .unset] [(.int p4), (.int p3), (.int p2), (.int p1), (.int vv), (.int 3), (.int 1), (.ref b277), (.int 1)])) rfl (by rw [hml]; rfl) (argsL := [(.int 1), (.ref b277), (.int 1), (.int 3), (.int vv), (.int p1), (.int p2), (.int p3), (.int p4)]) (rest := []) (lenOf pd_6 rfl) rfl (by show 2 * 0 + _ ≤ _; exact Nat.le_of_eq rfl) (hb hby at_195) (fun _ _ => ⟨rfl, rfl, (by decide : 5 + 0 ≤ _), (by decide : 18 + 0 ≤ _)⟩)
    dsimp only [Pt.U, Pt.locs, Pt.cells, Pt.slots] at X360 l360 y360 z360 st360 hQ360
    subst l360 y360 z360
    obtain ⟨rfl, M360, e360⟩ := hQ360
    have N360 := Fr.app N349 M360
    refine Goes.on (fun t k => st360 _ k) ?_
    show Goes p e below QQ (T360.setTop (mkF m 198 #[iv p1, iv p2, iv p3, iv p4, iv p5, iv 3, iv vv, rv b262, rv b277, rv b302, iv 1, iv 1, iv 1, .unset, .unset, .unset] [(.int 1)]))
    refine Goes.on (fun t k => XS.ifNo X360.here hx rfl (hb hby at_198) rfl ((if0 _ _).trans (feq (by decide)).1) k) ?_
    show Goes p e below QQ (T360.setTop (mkF m 201 #[iv p1, iv p2, iv p3, iv p4, iv p5, iv 3, iv vv, rv b262, rv b277, rv b302, iv 1, iv 1, iv 1, .unset, .unset, .unset] []))
    refine Goes.on (fun t k => XS.iconst X360.here hx rfl (hb hby at_201) k) ?_
    show Goes p e below QQ (T360.setTop (mkF m 202 #[iv p1, iv p2, iv p3, iv p4, iv p5, iv 3, iv vv, rv b262, rv b277, rv b302, iv 1, iv 1, iv 1, .unset, .unset, .unset] [(.int 1)]))
    refine Goes.on (fun t k => XS.goto X360.here hx rfl (pc0 := 202) (pc' := 206) rfl (hb hby at_202) (by decide) (by decide) k) ?_
    show Goes p e below QQ (T360.setTop (mkF m 206 #[iv p1, iv p2, iv p3, iv p4, iv p5, iv 3, iv vv, rv b262, rv b277, rv b302, iv 1, iv 1, iv 1, .unset, .unset, .unset] [(.int 1)]))
    refine Goes.on (fun t k => XS.istore X360.here hx rfl (hb hby at_206) rfl (l' := #[iv p1, iv p2, iv p3, iv p4, iv p5, iv 3, iv vv, rv b262, rv b277, rv b302, iv 1, iv 1, iv 1, .unset, .unset, .unset]) rfl k) ?_
    show Goes p e below QQ (T360.setTop (mkF m 208 #[iv p1, iv p2, iv p3, iv p4, iv p5, iv 3, iv vv, rv b262, rv b277, rv b302, iv 1, iv 1, iv 1, .unset, .unset, .unset] []))
    refine Goes.on (fun t k => XS.aload X360.here hx rfl (hb hby at_208) rfl rfl k) ?_
    show Goes p e below QQ (T360.setTop (mkF m 210 #[iv p1, iv p2, iv p3, iv p4, iv p5, iv 3, iv vv, rv b262, rv b277, rv b302, iv 1, iv 1, iv 1, .unset, .unset, .unset] [(.ref b302)]))
    refine Goes.on (fun t k => XS.aload X360.here hx rfl (hb hby at_210) rfl rfl k) ?_
    show Goes p e below QQ (T360.setTop (mkF m 212 #[iv p1, iv p2, iv p3, iv p4, iv p5, iv 3, iv vv, rv b262, rv b277, rv b302, iv 1, iv 1, iv 1, .unset, .unset, .unset] [(.ref b277), (.ref b302)]))
    obtain ⟨cq361, kq361, q361a, q361b, q361c⟩ := isOf hZ e360 A302_352
    obtain ⟨_, _, ⟨T361, L361, k361, n361⟩, -, X361, ⟨Lc361, hQ361, l361, y361, z361⟩, st361⟩ := X360.virtualBack hx (y := (⟨"com/example/clew/clew/algebra/Step$Members", "advance", "([I)Z"⟩ : MethodName)) (z := (⟨"com/example/clew/clew/algebra/Step$Members", "advance", "([I)Z"⟩ : MethodName)) hown (mvT hZ (hw _ (List.mem_of_getElem? (i := 58) rfl))) (mvT hZ (hw _ (List.mem_of_getElem? (i := 59) rfl))) (notFace_of_selects (args := #[]) (mvT hZ (hw _ (List.mem_of_getElem? (i := 61) rfl)))) (mvT hZ (hw _ (List.mem_of_getElem? (i := 61) rfl))) (mvT hZ (hw _ (List.mem_of_getElem? (i := 60) rfl))) (by decide) (backOf (W := 0) (rmYe l Z a0 hw [] b302 b277 b262 (2 : Int32) (3 : Int32) vv k262 (3 : Int32) [(.int p1), (.int p2), (.int p3)] k277 (rs0.set vv.toNatClampNeg (.int p2)) p3 T349.heap n0 (Nat.le_trans Z0 K359.1) A302_352 members_y1 variable_y1 next_y1 end_y1 bound_y1 V_351 Vry1 g_b302 g_b277 ne_b262_b302 ne_b262_b277 (Ne.symm ne_b277_b302) (by decide) ⟨by decide, by decide⟩ rfl (by rcases hv4 with rfl | rfl | rfl | rfl <;> exact ⟨by decide, by decide⟩) (by subst hrs0; rcases hv4 with rfl | rfl | rfl | rfl <;> exact Nat.le_of_ble_eq_true rfl)) hZ (hw _ (List.mem_of_getElem? (i := 62) rfl)) (hw _ (List.mem_of_getElem? (i := 3) rfl)) (by decide) (by decide)) q361a q361c (g := (mkF m 212 #[iv p1, iv p2, iv p3, iv p4, iv p5, iv 3, iv vv, rv b262, rv b277, rv b302, iv 1, iv 1, iv 1, .unset, .unset, .unset] [(.ref b277), (.ref b302)])) rfl (by rw [hml]; rfl) (Steps.refl _) (argsL := [(.ref b277)]) (rest := []) (lenOf pd_5 rfl) rfl (by show 2 * 0 + _ ≤ _; exact Nat.le_of_eq rfl) (hb hby at_212) (fun _ _ => ⟨rfl, e360, (by decide : 5 + 0 ≤ _), (by decide : 18 + 0 ≤ _)⟩)
    dsimp only [Pt.U, Pt.locs, Pt.cells, Pt.slots] at X361 l361 y361 z361 st361 hQ361
    subst l361 y361 z361
    obtain ⟨rfl, M361, Kcy2, ⟨members_y2, variable_y2, next_y2, end_y2, bound_y2⟩, Vry2⟩ := hQ361
    have N361 := Fr.app N360 M361
    refine Goes.on (fun t k => st361.trans k) ?_
    have O_362 := O_350.keep Kcy2 (allS g_b302 (allS g_b277 all0))
    have V_363 := V_351.keep Kcy2 (ninS ne_b262_b302 (ninS ne_b262_b277 nin0))
    have A302_364 := A302_352.keep Kcy2
    have K371 := K359.trans Kcy2 (allS (Or.inr sz_b302) (allS (Or.inr sz_b277) all0))
    show Goes p e below QQ (T361.setTop (mkF m 215 #[iv p1, iv p2, iv p3, iv p4, iv p5, iv 3, iv vv, rv b262, rv b277, rv b302, iv 1, iv 1, iv 1, .unset, .unset, .unset] [(.int 1)]))
    rw [(by decide : ((2 : Int32) + (1 : Int32)) = (3 : Int32))] at next_y2
    rw [List.set_set] at Vry2
    show Goes p e below QQ (T361.setTop (mkF m 215 #[iv p1, iv p2, iv p3, iv p4, iv p5, iv 3, iv vv, rv b262, rv b277, rv b302, iv 1, iv 1, iv 1, .unset, .unset, .unset] [(.int 1)]))
    refine Goes.on (fun t k => XS.istore X361.here hx rfl (hb hby at_215) rfl (l' := #[iv p1, iv p2, iv p3, iv p4, iv p5, iv 3, iv vv, rv b262, rv b277, rv b302, iv 1, iv 1, iv 1, iv 1, .unset, .unset]) rfl k) ?_
    show Goes p e below QQ (T361.setTop (mkF m 217 #[iv p1, iv p2, iv p3, iv p4, iv p5, iv 3, iv vv, rv b262, rv b277, rv b302, iv 1, iv 1, iv 1, iv 1, .unset, .unset] []))
    refine Goes.on (fun t k => XS.iload X361.here hx rfl (hb hby at_217) rfl k) ?_
    show Goes p e below QQ (T361.setTop (mkF m 219 #[iv p1, iv p2, iv p3, iv p4, iv p5, iv 3, iv vv, rv b262, rv b277, rv b302, iv 1, iv 1, iv 1, iv 1, .unset, .unset] [(.int 1)]))
    refine Goes.on (fun t k => XS.ifNo X361.here hx rfl (hb hby at_219) rfl ((if0 _ _).trans (feq (by decide)).1) k) ?_
    show Goes p e below QQ (T361.setTop (mkF m 222 #[iv p1, iv p2, iv p3, iv p4, iv p5, iv 3, iv vv, rv b262, rv b277, rv b302, iv 1, iv 1, iv 1, iv 1, .unset, .unset] []))
    refine Goes.on (fun t k => XS.iload X361.here hx rfl (hb hby at_222) rfl k) ?_
    show Goes p e below QQ (T361.setTop (mkF m 224 #[iv p1, iv p2, iv p3, iv p4, iv p5, iv 3, iv vv, rv b262, rv b277, rv b302, iv 1, iv 1, iv 1, iv 1, .unset, .unset] [(.int 1)]))
    refine Goes.on (fun t k => XS.aload X361.here hx rfl (hb hby at_224) rfl rfl k) ?_
    show Goes p e below QQ (T361.setTop (mkF m 226 #[iv p1, iv p2, iv p3, iv p4, iv p5, iv 3, iv vv, rv b262, rv b277, rv b302, iv 1, iv 1, iv 1, iv 1, .unset, .unset] [(.ref b277), (.int 1)]))
    refine Goes.on (fun t k => XS.iconst X361.here hx rfl (hb hby at_226) k) ?_
    show Goes p e below QQ (T361.setTop (mkF m 227 #[iv p1, iv p2, iv p3, iv p4, iv p5, iv 3, iv vv, rv b262, rv b277, rv b302, iv 1, iv 1, iv 1, iv 1, .unset, .unset] [(.int 2), (.ref b277), (.int 1)]))
    refine Goes.on (fun t k => XS.iload X361.here hx rfl (hb hby at_227) rfl k) ?_
    show Goes p e below QQ (T361.setTop (mkF m 229 #[iv p1, iv p2, iv p3, iv p4, iv p5, iv 3, iv vv, rv b262, rv b277, rv b302, iv 1, iv 1, iv 1, iv 1, .unset, .unset] [(.int 3), (.int 2), (.ref b277), (.int 1)]))
    refine Goes.on (fun t k => XS.iload X361.here hx rfl (hb hby at_229) rfl k) ?_
    show Goes p e below QQ (T361.setTop (mkF m 231 #[iv p1, iv p2, iv p3, iv p4, iv p5, iv 3, iv vv, rv b262, rv b277, rv b302, iv 1, iv 1, iv 1, iv 1, .unset, .unset] [(.int vv), (.int 3), (.int 2), (.ref b277), (.int 1)]))
    refine Goes.on (fun t k => XS.iloadN X361.here hx rfl (hb hby at_231) rfl k) ?_
    show Goes p e below QQ (T361.setTop (mkF m 232 #[iv p1, iv p2, iv p3, iv p4, iv p5, iv 3, iv vv, rv b262, rv b277, rv b302, iv 1, iv 1, iv 1, iv 1, .unset, .unset] [(.int p1), (.int vv), (.int 3), (.int 2), (.ref b277), (.int 1)]))
    refine Goes.on (fun t k => XS.iloadN X361.here hx rfl (hb hby at_232) rfl k) ?_
    show Goes p e below QQ (T361.setTop (mkF m 233 #[iv p1, iv p2, iv p3, iv p4, iv p5, iv 3, iv vv, rv b262, rv b277, rv b302, iv 1, iv 1, iv 1, iv 1, .unset, .unset] [(.int p2), (.int p1), (.int vv), (.int 3), (.int 2), (.ref b277), (.int 1)]))
    refine Goes.on (fun t k => XS.iloadN X361.here hx rfl (hb hby at_233) rfl k) ?_
    show Goes p e below QQ (T361.setTop (mkF m 234 #[iv p1, iv p2, iv p3, iv p4, iv p5, iv 3, iv vv, rv b262, rv b277, rv b302, iv 1, iv 1, iv 1, iv 1, .unset, .unset] [(.int p3), (.int p2), (.int p1), (.int vv), (.int 3), (.int 2), (.ref b277), (.int 1)]))
    refine Goes.on (fun t k => XS.iloadN X361.here hx rfl (hb hby at_234) rfl k) ?_
    show Goes p e below QQ (T361.setTop (mkF m 235 #[iv p1, iv p2, iv p3, iv p4, iv p5, iv 3, iv vv, rv b262, rv b277, rv b302, iv 1, iv 1, iv 1, iv 1, .unset, .unset] [(.int p4), (.int p3), (.int p2), (.int p1), (.int vv), (.int 3), (.int 2), (.ref b277), (.int 1)]))
    have Vq235 : Arv Z T361.heap b277 k277 .int (4 : Int32) ([(.int p4), (.int (p4 + (1 : Int32))), (.int (p4 + (2 : Int32))), (.int (p4 + (3 : Int32)))].set vv.toNatClampNeg (.int p3)) (.int (0 : Int32)) := (hrs0 ▸ Vry2)
    obtain ⟨_, _, ⟨T372, L372, k372, n372⟩, -, X372, ⟨Lc372, hQ372, l372, y372, z372⟩, st372⟩ := Jvm.LawKit.callS X361 hx (y := (⟨"com/example/clew/clew/algebra/MembersAdvancePinLaw", "stepOk", "(Z[IIIIIIII)Z"⟩ : MethodName)) hown (mvT hZ (hw _ (List.mem_of_getElem? (i := 63) rfl))) (mvT hZ (hw _ (List.mem_of_getElem? (i := 64) rfl))) (mvT hZ (hw _ (List.mem_of_getElem? (i := 65) rfl))) (mvT hZ (hw _ (List.mem_of_getElem? (i := 66) rfl))) (by decide) (backOf (W := 0) (rmSO l Z a0 hw [] (1 : Int32) b277 (2 : Int32) (3 : Int32) vv p1 p2 p3 p4 k277 p3 T361.heap n0 (Nat.le_trans Z0 K371.1) Vq235 hv4 (by decide) (by first | rfl | simp [expF])) hZ (hw _ (List.mem_of_getElem? (i := 66) rfl)) (hw _ (List.mem_of_getElem? (i := 65) rfl)) (by decide) (by decide)) (g := (mkF m 235 #[iv p1, iv p2, iv p3, iv p4, iv p5, iv 3, iv vv, rv b262, rv b277, rv b302, iv 1, iv 1, iv 1, iv 1, .unset, .unset] [(.int p4), (.int p3), (.int p2), (.int p1), (.int vv), (.int 3), (.int 2), (.ref b277), (.int 1)])) rfl (by rw [hml]; rfl) (argsL := [(.int 1), (.ref b277), (.int 2), (.int 3), (.int vv), (.int p1), (.int p2), (.int p3), (.int p4)]) (rest := []) (lenOf pd_6 rfl) rfl (by show 2 * 0 + _ ≤ _; exact Nat.le_of_eq rfl) (hb hby at_235) (fun _ _ => ⟨rfl, rfl, (by decide : 5 + 0 ≤ _), (by decide : 18 + 0 ≤ _)⟩)
    dsimp only [Pt.U, Pt.locs, Pt.cells, Pt.slots] at X372 l372 y372 z372 st372 hQ372
    subst l372 y372 z372
    obtain ⟨rfl, M372, e372⟩ := hQ372
    have N372 := Fr.app N361 M372
    refine Goes.on (fun t k => st372 _ k) ?_
    show Goes p e below QQ (T372.setTop (mkF m 238 #[iv p1, iv p2, iv p3, iv p4, iv p5, iv 3, iv vv, rv b262, rv b277, rv b302, iv 1, iv 1, iv 1, iv 1, .unset, .unset] [(.int 1)]))
    refine Goes.on (fun t k => XS.ifNo X372.here hx rfl (hb hby at_238) rfl ((if0 _ _).trans (feq (by decide)).1) k) ?_
    show Goes p e below QQ (T372.setTop (mkF m 241 #[iv p1, iv p2, iv p3, iv p4, iv p5, iv 3, iv vv, rv b262, rv b277, rv b302, iv 1, iv 1, iv 1, iv 1, .unset, .unset] []))
    refine Goes.on (fun t k => XS.iconst X372.here hx rfl (hb hby at_241) k) ?_
    show Goes p e below QQ (T372.setTop (mkF m 242 #[iv p1, iv p2, iv p3, iv p4, iv p5, iv 3, iv vv, rv b262, rv b277, rv b302, iv 1, iv 1, iv 1, iv 1, .unset, .unset] [(.int 1)]))
    refine Goes.on (fun t k => XS.goto X372.here hx rfl (pc0 := 242) (pc' := 246) rfl (hb hby at_242) (by decide) (by decide) k) ?_
    show Goes p e below QQ (T372.setTop (mkF m 246 #[iv p1, iv p2, iv p3, iv p4, iv p5, iv 3, iv vv, rv b262, rv b277, rv b302, iv 1, iv 1, iv 1, iv 1, .unset, .unset] [(.int 1)]))
    refine Goes.on (fun t k => XS.istore X372.here hx rfl (hb hby at_246) rfl (l' := #[iv p1, iv p2, iv p3, iv p4, iv p5, iv 3, iv vv, rv b262, rv b277, rv b302, iv 1, iv 1, iv 1, iv 1, .unset, .unset]) rfl k) ?_
    show Goes p e below QQ (T372.setTop (mkF m 248 #[iv p1, iv p2, iv p3, iv p4, iv p5, iv 3, iv vv, rv b262, rv b277, rv b302, iv 1, iv 1, iv 1, iv 1, .unset, .unset] []))
    refine Goes.on (fun t k => XS.aload X372.here hx rfl (hb hby at_248) rfl rfl k) ?_
    show Goes p e below QQ (T372.setTop (mkF m 250 #[iv p1, iv p2, iv p3, iv p4, iv p5, iv 3, iv vv, rv b262, rv b277, rv b302, iv 1, iv 1, iv 1, iv 1, .unset, .unset] [(.ref b302)]))
    refine Goes.on (fun t k => XS.aload X372.here hx rfl (hb hby at_250) rfl rfl k) ?_
    show Goes p e below QQ (T372.setTop (mkF m 252 #[iv p1, iv p2, iv p3, iv p4, iv p5, iv 3, iv vv, rv b262, rv b277, rv b302, iv 1, iv 1, iv 1, iv 1, .unset, .unset] [(.ref b277), (.ref b302)]))
    obtain ⟨cq373, kq373, q373a, q373b, q373c⟩ := isOf hZ e372 A302_364
    obtain ⟨_, _, ⟨T373, L373, k373, n373⟩, -, X373, ⟨Lc373, hQ373, l373, y373, z373⟩, st373⟩ := X372.virtualBack hx (y := (⟨"com/example/clew/clew/algebra/Step$Members", "advance", "([I)Z"⟩ : MethodName)) (z := (⟨"com/example/clew/clew/algebra/Step$Members", "advance", "([I)Z"⟩ : MethodName)) hown (mvT hZ (hw _ (List.mem_of_getElem? (i := 58) rfl))) (mvT hZ (hw _ (List.mem_of_getElem? (i := 59) rfl))) (notFace_of_selects (args := #[]) (mvT hZ (hw _ (List.mem_of_getElem? (i := 61) rfl)))) (mvT hZ (hw _ (List.mem_of_getElem? (i := 61) rfl))) (mvT hZ (hw _ (List.mem_of_getElem? (i := 60) rfl))) (by decide) (backOf (W := 0) (rmNo l Z a0 hw [] b302 b277 (3 : Int32) T361.heap n0 (Nat.le_trans Z0 K371.1) next_y2 end_y2) hZ (hw _ (List.mem_of_getElem? (i := 62) rfl)) (hw _ (List.mem_of_getElem? (i := 3) rfl)) (by decide) (by decide)) q373a q373c (g := (mkF m 252 #[iv p1, iv p2, iv p3, iv p4, iv p5, iv 3, iv vv, rv b262, rv b277, rv b302, iv 1, iv 1, iv 1, iv 1, .unset, .unset] [(.ref b277), (.ref b302)])) rfl (by rw [hml]; rfl) (Steps.refl _) (argsL := [(.ref b277)]) (rest := []) (lenOf pd_5 rfl) rfl (by show 2 * 0 + _ ≤ _; exact Nat.le_of_eq rfl) (hb hby at_252) (fun _ _ => ⟨rfl, e372, (by decide : 5 + 0 ≤ _), (by decide : 18 + 0 ≤ _)⟩)
    dsimp only [Pt.U, Pt.locs, Pt.cells, Pt.slots] at X373 l373 y373 z373 st373 hQ373
    subst l373 y373 z373
    obtain ⟨rfl, M373, e373⟩ := hQ373
    have N373 := Fr.app N372 M373
    refine Goes.on (fun t k => st373.trans k) ?_
    show Goes p e below QQ (T373.setTop (mkF m 255 #[iv p1, iv p2, iv p3, iv p4, iv p5, iv 3, iv vv, rv b262, rv b277, rv b302, iv 1, iv 1, iv 1, iv 1, .unset, .unset] [(.int 0)]))
    refine Goes.on (fun t k => XS.istore X373.here hx rfl (hb hby at_255) rfl (l' := #[iv p1, iv p2, iv p3, iv p4, iv p5, iv 3, iv vv, rv b262, rv b277, rv b302, iv 1, iv 1, iv 1, iv 1, iv 0, .unset]) rfl k) ?_
    show Goes p e below QQ (T373.setTop (mkF m 257 #[iv p1, iv p2, iv p3, iv p4, iv p5, iv 3, iv vv, rv b262, rv b277, rv b302, iv 1, iv 1, iv 1, iv 1, iv 0, .unset] []))
    refine Goes.on (fun t k => XS.iload X373.here hx rfl (hb hby at_257) rfl k) ?_
    show Goes p e below QQ (T373.setTop (mkF m 259 #[iv p1, iv p2, iv p3, iv p4, iv p5, iv 3, iv vv, rv b262, rv b277, rv b302, iv 1, iv 1, iv 1, iv 1, iv 0, .unset] [(.int 1)]))
    refine Goes.on (fun t k => XS.ifNo X373.here hx rfl (hb hby at_259) rfl ((if0 _ _).trans (feq (by decide)).1) k) ?_
    show Goes p e below QQ (T373.setTop (mkF m 262 #[iv p1, iv p2, iv p3, iv p4, iv p5, iv 3, iv vv, rv b262, rv b277, rv b302, iv 1, iv 1, iv 1, iv 1, iv 0, .unset] []))
    refine Goes.on (fun t k => XS.iload X373.here hx rfl (hb hby at_262) rfl k) ?_
    show Goes p e below QQ (T373.setTop (mkF m 264 #[iv p1, iv p2, iv p3, iv p4, iv p5, iv 3, iv vv, rv b262, rv b277, rv b302, iv 1, iv 1, iv 1, iv 1, iv 0, .unset] [(.int 0)]))
    refine Goes.on (fun t k => XS.aload X373.here hx rfl (hb hby at_264) rfl rfl k) ?_
    show Goes p e below QQ (T373.setTop (mkF m 266 #[iv p1, iv p2, iv p3, iv p4, iv p5, iv 3, iv vv, rv b262, rv b277, rv b302, iv 1, iv 1, iv 1, iv 1, iv 0, .unset] [(.ref b277), (.int 0)]))
    refine Goes.on (fun t k => XS.iconst X373.here hx rfl (hb hby at_266) k) ?_
    show Goes p e below QQ (T373.setTop (mkF m 267 #[iv p1, iv p2, iv p3, iv p4, iv p5, iv 3, iv vv, rv b262, rv b277, rv b302, iv 1, iv 1, iv 1, iv 1, iv 0, .unset] [(.int 3), (.ref b277), (.int 0)]))
    refine Goes.on (fun t k => XS.iload X373.here hx rfl (hb hby at_267) rfl k) ?_
    show Goes p e below QQ (T373.setTop (mkF m 269 #[iv p1, iv p2, iv p3, iv p4, iv p5, iv 3, iv vv, rv b262, rv b277, rv b302, iv 1, iv 1, iv 1, iv 1, iv 0, .unset] [(.int 3), (.int 3), (.ref b277), (.int 0)]))
    refine Goes.on (fun t k => XS.iload X373.here hx rfl (hb hby at_269) rfl k) ?_
    show Goes p e below QQ (T373.setTop (mkF m 271 #[iv p1, iv p2, iv p3, iv p4, iv p5, iv 3, iv vv, rv b262, rv b277, rv b302, iv 1, iv 1, iv 1, iv 1, iv 0, .unset] [(.int vv), (.int 3), (.int 3), (.ref b277), (.int 0)]))
    refine Goes.on (fun t k => XS.iloadN X373.here hx rfl (hb hby at_271) rfl k) ?_
    show Goes p e below QQ (T373.setTop (mkF m 272 #[iv p1, iv p2, iv p3, iv p4, iv p5, iv 3, iv vv, rv b262, rv b277, rv b302, iv 1, iv 1, iv 1, iv 1, iv 0, .unset] [(.int p1), (.int vv), (.int 3), (.int 3), (.ref b277), (.int 0)]))
    refine Goes.on (fun t k => XS.iloadN X373.here hx rfl (hb hby at_272) rfl k) ?_
    show Goes p e below QQ (T373.setTop (mkF m 273 #[iv p1, iv p2, iv p3, iv p4, iv p5, iv 3, iv vv, rv b262, rv b277, rv b302, iv 1, iv 1, iv 1, iv 1, iv 0, .unset] [(.int p2), (.int p1), (.int vv), (.int 3), (.int 3), (.ref b277), (.int 0)]))
    refine Goes.on (fun t k => XS.iloadN X373.here hx rfl (hb hby at_273) rfl k) ?_
    show Goes p e below QQ (T373.setTop (mkF m 274 #[iv p1, iv p2, iv p3, iv p4, iv p5, iv 3, iv vv, rv b262, rv b277, rv b302, iv 1, iv 1, iv 1, iv 1, iv 0, .unset] [(.int p3), (.int p2), (.int p1), (.int vv), (.int 3), (.int 3), (.ref b277), (.int 0)]))
    refine Goes.on (fun t k => XS.iloadN X373.here hx rfl (hb hby at_274) rfl k) ?_
    show Goes p e below QQ (T373.setTop (mkF m 275 #[iv p1, iv p2, iv p3, iv p4, iv p5, iv 3, iv vv, rv b262, rv b277, rv b302, iv 1, iv 1, iv 1, iv 1, iv 0, .unset] [(.int p4), (.int p3), (.int p2), (.int p1), (.int vv), (.int 3), (.int 3), (.ref b277), (.int 0)]))
    have Vq275 : Arv Z T361.heap b277 k277 .int (4 : Int32) ([(.int p4), (.int (p4 + (1 : Int32))), (.int (p4 + (2 : Int32))), (.int (p4 + (3 : Int32)))].set vv.toNatClampNeg (.int p3)) (.int (0 : Int32)) := (hrs0 ▸ Vry2)
    obtain ⟨_, _, ⟨T374, L374, k374, n374⟩, -, X374, ⟨Lc374, hQ374, l374, y374, z374⟩, st374⟩ := Jvm.LawKit.callS X373 hx (y := (⟨"com/example/clew/clew/algebra/MembersAdvancePinLaw", "stepOk", "(Z[IIIIIIII)Z"⟩ : MethodName)) hown (mvT hZ (hw _ (List.mem_of_getElem? (i := 63) rfl))) (mvT hZ (hw _ (List.mem_of_getElem? (i := 64) rfl))) (mvT hZ (hw _ (List.mem_of_getElem? (i := 65) rfl))) (mvT hZ (hw _ (List.mem_of_getElem? (i := 66) rfl))) (by decide) (backOf (W := 0) (rmSO l Z a0 hw [] (0 : Int32) b277 (3 : Int32) (3 : Int32) vv p1 p2 p3 p4 k277 p3 T361.heap n0 (Nat.le_trans Z0 K371.1) Vq275 hv4 (by decide) (by first | rfl | simp [expF])) hZ (hw _ (List.mem_of_getElem? (i := 66) rfl)) (hw _ (List.mem_of_getElem? (i := 65) rfl)) (by decide) (by decide)) (g := (mkF m 275 #[iv p1, iv p2, iv p3, iv p4, iv p5, iv 3, iv vv, rv b262, rv b277, rv b302, iv 1, iv 1, iv 1, iv 1, iv 0, .unset] [(.int p4), (.int p3), (.int p2), (.int p1), (.int vv), (.int 3), (.int 3), (.ref b277), (.int 0)])) rfl (by rw [hml]; rfl) (argsL := [(.int 0), (.ref b277), (.int 3), (.int 3), (.int vv), (.int p1), (.int p2), (.int p3), (.int p4)]) (rest := []) (lenOf pd_6 rfl) rfl (by show 2 * 0 + _ ≤ _; exact Nat.le_of_eq rfl) (hb hby at_275) (fun _ _ => ⟨rfl, e373, (by decide : 5 + 0 ≤ _), (by decide : 18 + 0 ≤ _)⟩)
    dsimp only [Pt.U, Pt.locs, Pt.cells, Pt.slots] at X374 l374 y374 z374 st374 hQ374
    subst l374 y374 z374
    obtain ⟨rfl, M374, e374⟩ := hQ374
    have N374 := Fr.app N373 M374
    refine Goes.on (fun t k => st374 _ k) ?_
    show Goes p e below QQ (T374.setTop (mkF m 278 #[iv p1, iv p2, iv p3, iv p4, iv p5, iv 3, iv vv, rv b262, rv b277, rv b302, iv 1, iv 1, iv 1, iv 1, iv 0, .unset] [(.int 1)]))
    refine Goes.on (fun t k => XS.ifNo X374.here hx rfl (hb hby at_278) rfl ((if0 _ _).trans (feq (by decide)).1) k) ?_
    show Goes p e below QQ (T374.setTop (mkF m 281 #[iv p1, iv p2, iv p3, iv p4, iv p5, iv 3, iv vv, rv b262, rv b277, rv b302, iv 1, iv 1, iv 1, iv 1, iv 0, .unset] []))
    refine Goes.on (fun t k => XS.iconst X374.here hx rfl (hb hby at_281) k) ?_
    show Goes p e below QQ (T374.setTop (mkF m 282 #[iv p1, iv p2, iv p3, iv p4, iv p5, iv 3, iv vv, rv b262, rv b277, rv b302, iv 1, iv 1, iv 1, iv 1, iv 0, .unset] [(.int 1)]))
    refine Goes.on (fun t k => XS.goto X374.here hx rfl (pc0 := 282) (pc' := 286) rfl (hb hby at_282) (by decide) (by decide) k) ?_
    show Goes p e below QQ (T374.setTop (mkF m 286 #[iv p1, iv p2, iv p3, iv p4, iv p5, iv 3, iv vv, rv b262, rv b277, rv b302, iv 1, iv 1, iv 1, iv 1, iv 0, .unset] [(.int 1)]))
    refine Goes.on (fun t k => XS.istore X374.here hx rfl (hb hby at_286) rfl (l' := #[iv p1, iv p2, iv p3, iv p4, iv p5, iv 3, iv vv, rv b262, rv b277, rv b302, iv 1, iv 1, iv 1, iv 1, iv 0, .unset]) rfl k) ?_
    show Goes p e below QQ (T374.setTop (mkF m 288 #[iv p1, iv p2, iv p3, iv p4, iv p5, iv 3, iv vv, rv b262, rv b277, rv b302, iv 1, iv 1, iv 1, iv 1, iv 0, .unset] []))
    refine Goes.on (fun t k => XS.aload X374.here hx rfl (hb hby at_288) rfl rfl k) ?_
    show Goes p e below QQ (T374.setTop (mkF m 290 #[iv p1, iv p2, iv p3, iv p4, iv p5, iv 3, iv vv, rv b262, rv b277, rv b302, iv 1, iv 1, iv 1, iv 1, iv 0, .unset] [(.ref b302)]))
    refine Goes.on (fun t k => XS.aload X374.here hx rfl (hb hby at_290) rfl rfl k) ?_
    show Goes p e below QQ (T374.setTop (mkF m 292 #[iv p1, iv p2, iv p3, iv p4, iv p5, iv 3, iv vv, rv b262, rv b277, rv b302, iv 1, iv 1, iv 1, iv 1, iv 0, .unset] [(.ref b277), (.ref b302)]))
    obtain ⟨cq375, kq375, q375a, q375b, q375c⟩ := isOf hZ e374 A302_364
    obtain ⟨_, _, ⟨T375, L375, k375, n375⟩, -, X375, ⟨Lc375, hQ375, l375, y375, z375⟩, st375⟩ := X374.virtualBack hx (y := (⟨"com/example/clew/clew/algebra/Step$Members", "advance", "([I)Z"⟩ : MethodName)) (z := (⟨"com/example/clew/clew/algebra/Step$Members", "advance", "([I)Z"⟩ : MethodName)) hown (mvT hZ (hw _ (List.mem_of_getElem? (i := 58) rfl))) (mvT hZ (hw _ (List.mem_of_getElem? (i := 59) rfl))) (notFace_of_selects (args := #[]) (mvT hZ (hw _ (List.mem_of_getElem? (i := 61) rfl)))) (mvT hZ (hw _ (List.mem_of_getElem? (i := 61) rfl))) (mvT hZ (hw _ (List.mem_of_getElem? (i := 60) rfl))) (by decide) (backOf (W := 0) (rmNo l Z a0 hw [] b302 b277 (3 : Int32) T361.heap n0 (Nat.le_trans Z0 K371.1) next_y2 end_y2) hZ (hw _ (List.mem_of_getElem? (i := 62) rfl)) (hw _ (List.mem_of_getElem? (i := 3) rfl)) (by decide) (by decide)) q375a q375c (g := (mkF m 292 #[iv p1, iv p2, iv p3, iv p4, iv p5, iv 3, iv vv, rv b262, rv b277, rv b302, iv 1, iv 1, iv 1, iv 1, iv 0, .unset] [(.ref b277), (.ref b302)])) rfl (by rw [hml]; rfl) (Steps.refl _) (argsL := [(.ref b277)]) (rest := []) (lenOf pd_5 rfl) rfl (by show 2 * 0 + _ ≤ _; exact Nat.le_of_eq rfl) (hb hby at_292) (fun _ _ => ⟨rfl, e374, (by decide : 5 + 0 ≤ _), (by decide : 18 + 0 ≤ _)⟩)
    dsimp only [Pt.U, Pt.locs, Pt.cells, Pt.slots] at X375 l375 y375 z375 st375 hQ375
    subst l375 y375 z375
    obtain ⟨rfl, M375, e375⟩ := hQ375
    have N375 := Fr.app N374 M375
    refine Goes.on (fun t k => st375.trans k) ?_
    show Goes p e below QQ (T375.setTop (mkF m 295 #[iv p1, iv p2, iv p3, iv p4, iv p5, iv 3, iv vv, rv b262, rv b277, rv b302, iv 1, iv 1, iv 1, iv 1, iv 0, .unset] [(.int 0)]))
    refine Goes.on (fun t k => XS.istore X375.here hx rfl (hb hby at_295) rfl (l' := #[iv p1, iv p2, iv p3, iv p4, iv p5, iv 3, iv vv, rv b262, rv b277, rv b302, iv 1, iv 1, iv 1, iv 1, iv 0, iv 0]) rfl k) ?_
    show Goes p e below QQ (T375.setTop (mkF m 297 #[iv p1, iv p2, iv p3, iv p4, iv p5, iv 3, iv vv, rv b262, rv b277, rv b302, iv 1, iv 1, iv 1, iv 1, iv 0, iv 0] []))
    refine Goes.on (fun t k => XS.iload X375.here hx rfl (hb hby at_297) rfl k) ?_
    show Goes p e below QQ (T375.setTop (mkF m 299 #[iv p1, iv p2, iv p3, iv p4, iv p5, iv 3, iv vv, rv b262, rv b277, rv b302, iv 1, iv 1, iv 1, iv 1, iv 0, iv 0] [(.int 1)]))
    refine Goes.on (fun t k => XS.ifNo X375.here hx rfl (hb hby at_299) rfl ((if0 _ _).trans (feq (by decide)).1) k) ?_
    show Goes p e below QQ (T375.setTop (mkF m 302 #[iv p1, iv p2, iv p3, iv p4, iv p5, iv 3, iv vv, rv b262, rv b277, rv b302, iv 1, iv 1, iv 1, iv 1, iv 0, iv 0] []))
    refine Goes.on (fun t k => XS.iload X375.here hx rfl (hb hby at_302) rfl k) ?_
    show Goes p e below QQ (T375.setTop (mkF m 304 #[iv p1, iv p2, iv p3, iv p4, iv p5, iv 3, iv vv, rv b262, rv b277, rv b302, iv 1, iv 1, iv 1, iv 1, iv 0, iv 0] [(.int 0)]))
    refine Goes.on (fun t k => XS.aload X375.here hx rfl (hb hby at_304) rfl rfl k) ?_
    show Goes p e below QQ (T375.setTop (mkF m 306 #[iv p1, iv p2, iv p3, iv p4, iv p5, iv 3, iv vv, rv b262, rv b277, rv b302, iv 1, iv 1, iv 1, iv 1, iv 0, iv 0] [(.ref b277), (.int 0)]))
    refine Goes.on (fun t k => XS.iconst X375.here hx rfl (hb hby at_306) k) ?_
    show Goes p e below QQ (T375.setTop (mkF m 307 #[iv p1, iv p2, iv p3, iv p4, iv p5, iv 3, iv vv, rv b262, rv b277, rv b302, iv 1, iv 1, iv 1, iv 1, iv 0, iv 0] [(.int 4), (.ref b277), (.int 0)]))
    refine Goes.on (fun t k => XS.iload X375.here hx rfl (hb hby at_307) rfl k) ?_
    show Goes p e below QQ (T375.setTop (mkF m 309 #[iv p1, iv p2, iv p3, iv p4, iv p5, iv 3, iv vv, rv b262, rv b277, rv b302, iv 1, iv 1, iv 1, iv 1, iv 0, iv 0] [(.int 3), (.int 4), (.ref b277), (.int 0)]))
    refine Goes.on (fun t k => XS.iload X375.here hx rfl (hb hby at_309) rfl k) ?_
    show Goes p e below QQ (T375.setTop (mkF m 311 #[iv p1, iv p2, iv p3, iv p4, iv p5, iv 3, iv vv, rv b262, rv b277, rv b302, iv 1, iv 1, iv 1, iv 1, iv 0, iv 0] [(.int vv), (.int 3), (.int 4), (.ref b277), (.int 0)]))
    refine Goes.on (fun t k => XS.iloadN X375.here hx rfl (hb hby at_311) rfl k) ?_
    show Goes p e below QQ (T375.setTop (mkF m 312 #[iv p1, iv p2, iv p3, iv p4, iv p5, iv 3, iv vv, rv b262, rv b277, rv b302, iv 1, iv 1, iv 1, iv 1, iv 0, iv 0] [(.int p1), (.int vv), (.int 3), (.int 4), (.ref b277), (.int 0)]))
    refine Goes.on (fun t k => XS.iloadN X375.here hx rfl (hb hby at_312) rfl k) ?_
    show Goes p e below QQ (T375.setTop (mkF m 313 #[iv p1, iv p2, iv p3, iv p4, iv p5, iv 3, iv vv, rv b262, rv b277, rv b302, iv 1, iv 1, iv 1, iv 1, iv 0, iv 0] [(.int p2), (.int p1), (.int vv), (.int 3), (.int 4), (.ref b277), (.int 0)]))
    refine Goes.on (fun t k => XS.iloadN X375.here hx rfl (hb hby at_313) rfl k) ?_
    show Goes p e below QQ (T375.setTop (mkF m 314 #[iv p1, iv p2, iv p3, iv p4, iv p5, iv 3, iv vv, rv b262, rv b277, rv b302, iv 1, iv 1, iv 1, iv 1, iv 0, iv 0] [(.int p3), (.int p2), (.int p1), (.int vv), (.int 3), (.int 4), (.ref b277), (.int 0)]))
    refine Goes.on (fun t k => XS.iloadN X375.here hx rfl (hb hby at_314) rfl k) ?_
    show Goes p e below QQ (T375.setTop (mkF m 315 #[iv p1, iv p2, iv p3, iv p4, iv p5, iv 3, iv vv, rv b262, rv b277, rv b302, iv 1, iv 1, iv 1, iv 1, iv 0, iv 0] [(.int p4), (.int p3), (.int p2), (.int p1), (.int vv), (.int 3), (.int 4), (.ref b277), (.int 0)]))
    have Vq315 : Arv Z T361.heap b277 k277 .int (4 : Int32) ([(.int p4), (.int (p4 + (1 : Int32))), (.int (p4 + (2 : Int32))), (.int (p4 + (3 : Int32)))].set vv.toNatClampNeg (.int p3)) (.int (0 : Int32)) := (hrs0 ▸ Vry2)
    obtain ⟨_, _, ⟨T376, L376, k376, n376⟩, -, X376, ⟨Lc376, hQ376, l376, y376, z376⟩, st376⟩ := Jvm.LawKit.callS X375 hx (y := (⟨"com/example/clew/clew/algebra/MembersAdvancePinLaw", "stepOk", "(Z[IIIIIIII)Z"⟩ : MethodName)) hown (mvT hZ (hw _ (List.mem_of_getElem? (i := 63) rfl))) (mvT hZ (hw _ (List.mem_of_getElem? (i := 64) rfl))) (mvT hZ (hw _ (List.mem_of_getElem? (i := 65) rfl))) (mvT hZ (hw _ (List.mem_of_getElem? (i := 66) rfl))) (by decide) (backOf (W := 0) (rmSO l Z a0 hw [] (0 : Int32) b277 (4 : Int32) (3 : Int32) vv p1 p2 p3 p4 k277 p3 T361.heap n0 (Nat.le_trans Z0 K371.1) Vq315 hv4 (by decide) (by first | rfl | simp [expF])) hZ (hw _ (List.mem_of_getElem? (i := 66) rfl)) (hw _ (List.mem_of_getElem? (i := 65) rfl)) (by decide) (by decide)) (g := (mkF m 315 #[iv p1, iv p2, iv p3, iv p4, iv p5, iv 3, iv vv, rv b262, rv b277, rv b302, iv 1, iv 1, iv 1, iv 1, iv 0, iv 0] [(.int p4), (.int p3), (.int p2), (.int p1), (.int vv), (.int 3), (.int 4), (.ref b277), (.int 0)])) rfl (by rw [hml]; rfl) (argsL := [(.int 0), (.ref b277), (.int 4), (.int 3), (.int vv), (.int p1), (.int p2), (.int p3), (.int p4)]) (rest := []) (lenOf pd_6 rfl) rfl (by show 2 * 0 + _ ≤ _; exact Nat.le_of_eq rfl) (hb hby at_315) (fun _ _ => ⟨rfl, e375, (by decide : 5 + 0 ≤ _), (by decide : 18 + 0 ≤ _)⟩)
    dsimp only [Pt.U, Pt.locs, Pt.cells, Pt.slots] at X376 l376 y376 z376 st376 hQ376
    subst l376 y376 z376
    obtain ⟨rfl, M376, e376⟩ := hQ376
    have N376 := Fr.app N375 M376
    refine Goes.on (fun t k => st376 _ k) ?_
    show Goes p e below QQ (T376.setTop (mkF m 318 #[iv p1, iv p2, iv p3, iv p4, iv p5, iv 3, iv vv, rv b262, rv b277, rv b302, iv 1, iv 1, iv 1, iv 1, iv 0, iv 0] [(.int 1)]))
    refine Goes.on (fun t k => XS.ifNo X376.here hx rfl (hb hby at_318) rfl ((if0 _ _).trans (feq (by decide)).1) k) ?_
    show Goes p e below QQ (T376.setTop (mkF m 321 #[iv p1, iv p2, iv p3, iv p4, iv p5, iv 3, iv vv, rv b262, rv b277, rv b302, iv 1, iv 1, iv 1, iv 1, iv 0, iv 0] []))
    refine Goes.on (fun t k => XS.iconst X376.here hx rfl (hb hby at_321) k) ?_
    show Goes p e below QQ (T376.setTop (mkF m 322 #[iv p1, iv p2, iv p3, iv p4, iv p5, iv 3, iv vv, rv b262, rv b277, rv b302, iv 1, iv 1, iv 1, iv 1, iv 0, iv 0] [(.int 1)]))
    refine Goes.on (fun t k => XS.goto X376.here hx rfl (pc0 := 322) (pc' := 326) rfl (hb hby at_322) (by decide) (by decide) k) ?_
    show Goes p e below QQ (T376.setTop (mkF m 326 #[iv p1, iv p2, iv p3, iv p4, iv p5, iv 3, iv vv, rv b262, rv b277, rv b302, iv 1, iv 1, iv 1, iv 1, iv 0, iv 0] [(.int 1)]))
    refine Goes.on (fun t k => XS.istore X376.here hx rfl (hb hby at_326) rfl (l' := #[iv p1, iv p2, iv p3, iv p4, iv p5, iv 3, iv vv, rv b262, rv b277, rv b302, iv 1, iv 1, iv 1, iv 1, iv 0, iv 0]) rfl k) ?_
    show Goes p e below QQ (T376.setTop (mkF m 328 #[iv p1, iv p2, iv p3, iv p4, iv p5, iv 3, iv vv, rv b262, rv b277, rv b302, iv 1, iv 1, iv 1, iv 1, iv 0, iv 0] []))
    refine Goes.on (fun t k => XS.iload X376.here hx rfl (hb hby at_328) rfl k) ?_
    show Goes p e below QQ (T376.setTop (mkF m 330 #[iv p1, iv p2, iv p3, iv p4, iv p5, iv 3, iv vv, rv b262, rv b277, rv b302, iv 1, iv 1, iv 1, iv 1, iv 0, iv 0] [(.int 1)]))
    exact Goes.rN X376 hx (t := .boolean) hret (by simp) hlk (hb hby at_330) hQQ ⟨rfl, N376⟩ (by decide) (by decide)
set_option maxRecDepth 65536 in
set_option maxHeartbeats 40000000 in
theorem comes_1 {Post : Tables → Env → Array Value → State → Outcome → State → Prop} (hpost : ∀ tb e args s v u, (limb_1_1.after args s (.returned v) u = true ∧ limb_1_2.after args s (.returned v) u = true ∧ True) → FrameEnd s (.returned v) u (Jvm.fieldLocs frame_1_writes args s ++ Jvm.arrayLocs frame_1_arrays args s ++ Jvm.staticLocs frame_1_statics s) 24 128 → Post tb e args s (.returned v) u) :
    ArmFor flags0 classFile x code maxLocals ret World_1 tables_1 room_1 Calls_1 rest_1 Pre_1 Post := by
  intro l hfl _ _ p e ha hc hk s m args below hf hA hF happ hP
  obtain ⟨hcalls, hrest, hpre⟩ := hP
  obtain ⟨-, -, -, hnamed, -, -, -, hat⟩ := (Spec.applies_iff hf).mp happ
  obtain ⟨hg, hn⟩ := and_e (Cond.before_iff.mp (show (Jvm.Cond.and given_1 narrow_1).before args s = true from hpre))
  obtain ⟨hg0, hg1⟩ := and_e hg
  obtain ⟨ga1, hg2⟩ := and_e hg1
  obtain ⟨ga2, hg3⟩ := and_e hg2
  obtain ⟨ga3, hg4⟩ := and_e hg3
  obtain ⟨ga4, hg5⟩ := and_e hg4
  obtain ⟨w0, w1, w2, w3, w4, rfl⟩ : ∃ w0 w1 w2 w3 w4 : Value, args = #[w0, w1, w2, w3, w4] := by
    have hs : args.size = 5 := by simpa [Cond.value, given_1] using hg0
    obtain ⟨L⟩ := args
    match L, hs with
    | [w0, w1, w2, w3, w4], _ => exact ⟨w0, w1, w2, w3, w4, rfl⟩
  have hw := fun d (hd : d ∈ tables_1) => atoms_spec (ws := Jvm.Cond.code x code maxLocals ret :: tables_1) hat d (List.mem_cons_of_mem _ hd)
  have hfit : Fit s := fun {y c} hc i hi => by
    obtain ⟨ha, rfl⟩ := Array.getElem?_eq_some_iff.mp hc
    have q := List.all_eq_true.mp ((Array.all_eq_true_iff_forall_mem.mp hF) _ (Array.getElem_mem ha)) i (List.mem_range.mpr hi)
    simpa [Array.getElem?_eq_getElem hi] using q
  obtain ⟨hsets, hown0⟩ := atoms_of _ (rest_1_c_eq ▸ (show rest_1_c.before _ s = true from hrest))
  obtain ⟨i0, ei0⟩ := is_v ga1
  obtain rfl : w0 = (.int i0) := Option.some.inj ei0
  obtain ⟨i1, ei1⟩ := is_v ga2
  obtain rfl : w1 = (.int i1) := Option.some.inj ei1
  obtain ⟨i2, ei2⟩ := is_v ga3
  obtain rfl : w2 = (.int i2) := Option.some.inj ei2
  obtain ⟨i3, ei3⟩ := is_v ga4
  obtain rfl : w3 = (.int i3) := Option.some.inj ei3
  obtain ⟨i4, ei4⟩ := is_v hg5
  obtain rfl : w4 = (.int i4) := Option.some.inj ei4
  obtain ⟨xD, evD⟩ := exa_v (Cond.before_iff.mp (hsets _ (List.mem_of_getElem? (i := 7) rfl)))
  have ST_D : Sta s s.heap "java/util/ArrayList" "DEFAULTCAPACITY_EMPTY_ELEMENTDATA" "[Ljava/lang/Object;" (.ref xD) := Sta.start evD (Or.inr ⟨(hw _ (List.mem_of_getElem? (i := 17) rfl)), (hsets _ (List.mem_of_getElem? (i := 2) rfl))⟩)
  obtain ⟨n, o, h1, h2, h3, _, L, rfl, ⟨rfl, N⟩, hq⟩ := rm0 l s _ hw tables_1 i0 i1 i2 i3 i4 xD s.heap s.heap.size (Nat.le_refl _) ST_D (Old.start s) p e ha hc hk s m _ below hf ((Spec.applies_iff_loose hf).mp happ).1 ⟨rfl, State.Warmed39.refl s, rfl⟩ trivial
  refine ⟨n, _, h1, h2, h3, hpost _ _ _ _ _ _ ⟨Cond.after_iff.mpr rfl, Cond.after_iff.mpr (eq_i res_at (Term.int_eval (1)) rfl), trivial⟩ ⟨hq.1, hq.2.1, (hq.2.2.sift fun y hy => Or.inr (N y hy)).mono (by decide) (by decide)⟩⟩
theorem main_1_1 : Claimed_1_1 := comes_1 fun _ _ _ _ _ _ h hF => ⟨h.1, hF⟩
theorem main_1_2 : Claimed_1_2 := comes_1 fun _ _ _ _ _ _ h hF => ⟨h.2.1, hF⟩
end Jvm.Pilot.@@N@@
namespace Jvm.Pilot.@@N@@
open Jvm Jvm.ClassFile Sem Op Lib Jvm.Free Jvm.Stand Jvm.Pilot.@@N@@.Jvm.D
/-! MADE BY PROGRAM (witnessworld.py) out of the Statement's table words and the real class files: 19 classes; the members and pool entries that the words name. The judged class is class 1, her method 1. -/
namespace start1
open Jvm.ClassFile
def u (s : String) : CpInfo := .utf8 (stringToUtf16 s)
/-- a pool by its gaps: so many unusable entries, then the entry; so many at the end -/
def gap : Nat → List CpInfo → List CpInfo
  | 0, r => r
  | n + 1, r => .unusable :: gap n r
def poolList (es : List (Nat × CpInfo)) (last : Nat) : List CpInfo := es.foldr (fun e r => gap e.1 (e.2 :: r)) (gap last [])
def pool (es : List (Nat × CpInfo)) (last : Nat) : Array CpInfo := ⟨poolList es last⟩
def fileOf (pool : Array CpInfo) (this : Nat) (attrs : Array Attribute := #[]) (ms : Array MethodInfo := #[]) (fl : Nat := 33) (sup : Nat := 0) (ifs : Array Nat := #[]) (fds : Array FieldInfo := #[]) : ClassFile where
  minorVersion := 0
  majorVersion := 65
  constantPool := pool
  accessFlags := fl
  thisClass := this
  superClass := sup
  interfaces := ifs
  fields := fds
  methods := ms
  attributes := attrs
def plain (name : String) (sup : Option ClassId) : Class where
  name := name
  kind := .ordinary
  loader := none
  accessFlags := 33
  super := sup
  interfaces := #[]
  cf := none
  fields := #[]
  methods := #[]
  instanceTypes := #[]
  staticTypes := #[]
  resolved := #[]
  callSites := []
  init := .initialized
  statics := none
  mirror := none

def pool0 : Array CpInfo := pool [(5, u "<init>"), (0, u "()V"), (1, .class_ 10), (1, u "java/lang/Object")] 113

def k0c0 : Code := { maxStack := 0, maxLocals := 1, code := object_method_1_code, exceptionTable := #[], attributes := #[] }
def k0m0 : Method := { name := "<init>", desc := "()V", sig := { parameters := [], returnType := none }, accessFlags := 1, code := some k0c0 }
/-- java/lang/Object -/
def k0 : Class := { plain "java/lang/Object" none with
  accessFlags := 33
  interfaces := #[]
  cf := some (fileOf pool0 8 #[] #[{ accessFlags := 1, nameIndex := 5, descriptorIndex := 6, attributes := #[] }] 33 0 #[] #[])
  fields := #[]
  methods := #[k0m0]
  instanceTypes := #[]
  staticTypes := #[]
  resolved := Array.replicate 124 none
  statics := none }

def pool1 : Array CpInfo := pool [(2, .class_ 4), (1, u "java/lang/Object"), (0, u "<init>"), (0, u "()V"), (0, .class_ 8), (0, u "com/example/clew/clew/algebra/Step$Members"), (0, .methodref 7 10), (0, .nameAndType 5 11), (0, u "([II)V"), (0, .methodref 7 13), (0, .nameAndType 14 15), (0, u "start"), (0, u "([I)V"), (0, .methodref 7 17), (0, .nameAndType 18 19), (0, u "advance"), (0, u "([I)Z"), (0, .methodref 21 22), (0, .class_ 23), (0, .nameAndType 24 25), (0, u "com/example/clew/clew/algebra/MembersAdvancePinLaw"), (0, u "stepOk"), (0, u "(Z[IIIIIIII)Z"), (0, .methodref 21 27), (0, .nameAndType 28 29), (0, u "expectedAt"), (0, u "(IIIIIII)I"), (0, .methodref 21 31), (0, .nameAndType 32 33), (0, u "cell"), (0, u "([IIIII)Z"), (2, u "law"), (0, u "(IIIII)Z")] 9

def k1m0 : Method := { name := "<init>", desc := "()V", sig := { parameters := [], returnType := none }, accessFlags := 1, code := none }
def k1c1 : Code := { maxStack := 9, maxLocals := 16, code := code, exceptionTable := #[], attributes := #[] }
def k1m1 : Method := { name := "law", desc := "(IIIII)Z", sig := { parameters := [.int, .int, .int, .int, .int], returnType := some .boolean }, accessFlags := 9, code := some k1c1 }
def k1c2 : Code := { maxStack := 2, maxLocals := 7, code := method_3_code, exceptionTable := #[], attributes := #[] }
def k1m2 : Method := { name := "expectedAt", desc := "(IIIIIII)I", sig := { parameters := [.int, .int, .int, .int, .int, .int, .int], returnType := some .int }, accessFlags := 10, code := some k1c2 }
def k1c3 : Code := { maxStack := 7, maxLocals := 10, code := method_4_code, exceptionTable := #[], attributes := #[] }
def k1m3 : Method := { name := "stepOk", desc := "(Z[IIIIIIII)Z", sig := { parameters := [.boolean, (.array .int), .int, .int, .int, .int, .int, .int, .int], returnType := some .boolean }, accessFlags := 10, code := some k1c3 }
def k1c4 : Code := { maxStack := 3, maxLocals := 5, code := method_5_code, exceptionTable := #[], attributes := #[] }
def k1m4 : Method := { name := "cell", desc := "([IIIII)Z", sig := { parameters := [(.array .int), .int, .int, .int, .int], returnType := some .boolean }, accessFlags := 10, code := some k1c4 }
/-- com/example/clew/clew/algebra/MembersAdvancePinLaw -/
def k1 : Class := { plain "com/example/clew/clew/algebra/MembersAdvancePinLaw" (some 0) with
  accessFlags := 49
  interfaces := #[]
  cf := some (fileOf pool1 21 #[] #[{ accessFlags := 1, nameIndex := 5, descriptorIndex := 6, attributes := #[] }, { accessFlags := 9, nameIndex := 36, descriptorIndex := 37, attributes := #[] }, { accessFlags := 10, nameIndex := 28, descriptorIndex := 29, attributes := #[] }, { accessFlags := 10, nameIndex := 24, descriptorIndex := 25, attributes := #[] }, { accessFlags := 10, nameIndex := 32, descriptorIndex := 33, attributes := #[] }] 49 2 #[] #[])
  fields := #[]
  methods := #[k1m0, k1m1, k1m2, k1m3, k1m4]
  instanceTypes := #[]
  staticTypes := #[]
  resolved := Array.replicate 47 none
  statics := none }

def pool2 : Array CpInfo := pool [(1, .methodref 2 3), (0, .class_ 4), (0, .nameAndType 5 6), (0, u "java/lang/Object"), (0, u "<init>"), (0, u "()V"), (0, .class_ 8), (0, u "java/util/ArrayList"), (0, .methodref 7 3), (0, .fieldref 11 12), (0, .class_ 13), (0, .nameAndType 14 15), (0, u "com/example/clew/clew/algebra/Step"), (0, u "tests"), (0, u "Ljava/util/List;"), (0, .fieldref 11 17), (0, .nameAndType 18 19), (0, u "variables"), (0, u "[I"), (8, u "([I)V"), (16, .class_ 46), (0, u "com/example/clew/clew/algebra/Step$Lookups"), (0, .class_ 48), (0, u "com/example/clew/clew/algebra/Step$Statements"), (0, .class_ 50), (0, u "com/example/clew/clew/algebra/Step$Pairs"), (0, .class_ 52), (0, u "com/example/clew/clew/algebra/Step$Binary"), (0, .class_ 54), (0, u "com/example/clew/clew/algebra/Step$Members")] 6

def k2c0 : Code := { maxStack := 3, maxLocals := 2, code := prog_50_method_1_code, exceptionTable := #[], attributes := #[] }
def k2m0 : Method := { name := "<init>", desc := "([I)V", sig := { parameters := [(.array .int)], returnType := none }, accessFlags := 0, code := some k2c0 }
/-- com/example/clew/clew/algebra/Step -/
def k2 : Class := { plain "com/example/clew/clew/algebra/Step" (some 0) with
  accessFlags := 1056
  interfaces := #[]
  cf := some (fileOf pool2 11 #[.nestMembers #[45, 47, 49, 51, 53]] #[{ accessFlags := 0, nameIndex := 5, descriptorIndex := 28, attributes := #[] }] 1056 2 #[] #[{ accessFlags := 16, nameIndex := 18, descriptorIndex := 19, attributes := #[] }, { accessFlags := 16, nameIndex := 14, descriptorIndex := 15, attributes := #[] }])
  fields := #[{ name := "variables", type := (.array .int), accessFlags := 16, slot := 0, constantValue := 0 }, { name := "tests", type := (.object "java/util/List"), accessFlags := 16, slot := 1, constantValue := 0 }]
  methods := #[k2m0]
  instanceTypes := #[(.array .int), (.object "java/util/List")]
  staticTypes := #[]
  resolved := Array.replicate 61 none
  statics := none }

def pool3 : Array CpInfo := pool [(1, .methodref 2 3), (0, .class_ 4), (0, .nameAndType 5 6), (0, u "com/example/clew/clew/algebra/Step"), (0, u "<init>"), (0, u "([I)V"), (0, .fieldref 8 9), (0, .class_ 10), (0, .nameAndType 11 12), (0, u "com/example/clew/clew/algebra/Step$Members"), (0, u "members"), (0, u "[I"), (0, .fieldref 8 14), (0, .nameAndType 15 16), (0, u "variable"), (0, u "I"), (6, .fieldref 8 24), (0, .nameAndType 25 26), (0, u "bound"), (0, u "Z"), (0, .fieldref 8 28), (0, .nameAndType 29 16), (0, u "next"), (0, .fieldref 8 31), (0, .nameAndType 32 16), (0, u "end"), (6, u "([II)V"), (6, u "start"), (2, u "advance"), (0, u "([I)Z")] 5

def k3c0 : Code := { maxStack := 5, maxLocals := 3, code := prog_53_method_1_code, exceptionTable := #[], attributes := #[] }
def k3m0 : Method := { name := "<init>", desc := "([II)V", sig := { parameters := [(.array .int), .int], returnType := none }, accessFlags := 0, code := some k3c0 }
def k3c1 : Code := { maxStack := 4, maxLocals := 2, code := prog_53_method_4_code, exceptionTable := #[], attributes := #[] }
def k3m1 : Method := { name := "start", desc := "([I)V", sig := { parameters := [(.array .int)], returnType := none }, accessFlags := 0, code := some k3c1 }
def k3c2 : Code := { maxStack := 4, maxLocals := 2, code := prog_53_method_5_code, exceptionTable := #[], attributes := #[] }
def k3m2 : Method := { name := "advance", desc := "([I)Z", sig := { parameters := [(.array .int)], returnType := some .boolean }, accessFlags := 0, code := some k3c2 }
/-- com/example/clew/clew/algebra/Step$Members -/
def k3 : Class := { plain "com/example/clew/clew/algebra/Step$Members" (some 2) with
  accessFlags := 48
  interfaces := #[]
  cf := some (fileOf pool3 8 #[.nestHost 2] #[{ accessFlags := 0, nameIndex := 5, descriptorIndex := 39, attributes := #[] }, { accessFlags := 0, nameIndex := 46, descriptorIndex := 6, attributes := #[] }, { accessFlags := 0, nameIndex := 49, descriptorIndex := 50, attributes := #[] }] 48 2 #[] #[{ accessFlags := 18, nameIndex := 11, descriptorIndex := 12, attributes := #[] }, { accessFlags := 18, nameIndex := 15, descriptorIndex := 16, attributes := #[] }, { accessFlags := 2, nameIndex := 25, descriptorIndex := 26, attributes := #[] }, { accessFlags := 2, nameIndex := 29, descriptorIndex := 16, attributes := #[] }, { accessFlags := 2, nameIndex := 32, descriptorIndex := 16, attributes := #[] }])
  fields := #[{ name := "members", type := (.array .int), accessFlags := 18, slot := 2, constantValue := 0 }, { name := "variable", type := .int, accessFlags := 18, slot := 3, constantValue := 0 }, { name := "bound", type := .boolean, accessFlags := 2, slot := 4, constantValue := 0 }, { name := "next", type := .int, accessFlags := 2, slot := 5, constantValue := 0 }, { name := "end", type := .int, accessFlags := 2, slot := 6, constantValue := 0 }]
  methods := #[k3m0, k3m1, k3m2]
  instanceTypes := #[(.array .int), (.object "java/util/List"), (.array .int), .int, .boolean, .int, .int]
  staticTypes := #[]
  resolved := Array.replicate 56 none
  statics := none }

def pool4 : Array CpInfo := pool [(8, .class_ 10), (1, u "java/lang/Iterable"), (24, .class_ 36), (0, u "java/lang/Object")] 25

/-- java/lang/Iterable -/
def k4 : Class := { plain "java/lang/Iterable" (some 0) with
  accessFlags := 1537
  interfaces := #[]
  cf := some (fileOf pool4 8 #[] #[] 1537 35 #[] #[])
  fields := #[]
  methods := #[]
  instanceTypes := #[]
  staticTypes := #[]
  resolved := Array.replicate 62 none
  statics := none }

def pool5 : Array CpInfo := pool [(10, .class_ 12), (1, u "java/util/Collection"), (47, .class_ 61), (0, u "java/lang/Object"), (0, .class_ 63), (0, u "java/lang/Iterable")] 51

/-- java/util/Collection -/
def k5 : Class := { plain "java/util/Collection" (some 0) with
  accessFlags := 1537
  interfaces := #[4]
  cf := some (fileOf pool5 10 #[] #[] 1537 60 #[62] #[])
  fields := #[]
  methods := #[]
  instanceTypes := #[]
  staticTypes := #[]
  resolved := Array.replicate 115 none
  statics := none }

def pool6 : Array CpInfo := pool [(1, .methodref 2 3), (0, .class_ 4), (0, .nameAndType 5 6), (0, u "java/lang/Object"), (0, u "<init>"), (0, u "()V"), (1, .class_ 10), (1, u "java/util/AbstractCollection"), (66, .class_ 78), (0, u "java/util/Collection")] 81

def k6c0 : Code := { maxStack := 1, maxLocals := 1, code := jdk_22_method_1_code, exceptionTable := #[], attributes := #[] }
def k6m0 : Method := { name := "<init>", desc := "()V", sig := { parameters := [], returnType := none }, accessFlags := 4, code := some k6c0 }
/-- java/util/AbstractCollection -/
def k6 : Class := { plain "java/util/AbstractCollection" (some 0) with
  accessFlags := 1057
  interfaces := #[5]
  cf := some (fileOf pool6 8 #[] #[{ accessFlags := 4, nameIndex := 5, descriptorIndex := 6, attributes := #[] }] 1057 2 #[77] #[])
  fields := #[]
  methods := #[k6m0]
  instanceTypes := #[]
  staticTypes := #[]
  resolved := Array.replicate 160 none
  statics := none }

def pool7 : Array CpInfo := pool [(8, .class_ 10), (1, u "java/util/SequencedCollection"), (15, .class_ 27), (0, u "java/lang/Object"), (0, .class_ 29), (0, u "java/util/Collection")] 27

/-- java/util/SequencedCollection -/
def k7 : Class := { plain "java/util/SequencedCollection" (some 0) with
  accessFlags := 1537
  interfaces := #[5]
  cf := some (fileOf pool7 8 #[] #[] 1537 26 #[28] #[])
  fields := #[]
  methods := #[]
  instanceTypes := #[]
  staticTypes := #[]
  resolved := Array.replicate 57 none
  statics := none }

def pool8 : Array CpInfo := pool [(8, .class_ 10), (1, u "java/util/List"), (92, .class_ 104), (0, u "java/lang/Object"), (15, .class_ 121), (0, u "java/util/SequencedCollection")] 129

/-- java/util/List -/
def k8 : Class := { plain "java/util/List" (some 0) with
  accessFlags := 1537
  interfaces := #[7]
  cf := some (fileOf pool8 8 #[] #[] 1537 103 #[120] #[])
  fields := #[]
  methods := #[]
  instanceTypes := #[]
  staticTypes := #[]
  resolved := Array.replicate 251 none
  statics := none }

def pool9 : Array CpInfo := pool [(1, .methodref 2 3), (0, .class_ 4), (0, .nameAndType 5 6), (0, u "java/util/AbstractCollection"), (0, u "<init>"), (0, u "()V"), (0, .fieldref 8 9), (0, .class_ 10), (0, .nameAndType 11 12), (0, u "java/util/AbstractList"), (0, u "modCount"), (0, u "I"), (64, .class_ 78), (0, u "java/util/AbstractList$Itr"), (3, .class_ 83), (0, u "java/util/AbstractList$ListItr"), (9, .class_ 94), (0, u "java/util/AbstractList$RandomAccessSubList"), (3, .class_ 99), (0, u "java/util/AbstractList$SubList"), (33, .class_ 134), (0, u "java/util/List"), (73, .class_ 209), (0, u "java/util/AbstractList$SubList$1"), (0, .class_ 211), (0, u "java/util/AbstractList$RandomAccessSpliterator")] 6

def k9c0 : Code := { maxStack := 2, maxLocals := 1, code := jdk_39_method_1_code, exceptionTable := #[], attributes := #[] }
def k9m0 : Method := { name := "<init>", desc := "()V", sig := { parameters := [], returnType := none }, accessFlags := 4, code := some k9c0 }
/-- java/util/AbstractList -/
def k9 : Class := { plain "java/util/AbstractList" (some 6) with
  accessFlags := 1057
  interfaces := #[8]
  cf := some (fileOf pool9 8 #[.nestMembers #[93, 98, 208, 210, 82, 77]] #[{ accessFlags := 4, nameIndex := 5, descriptorIndex := 6, attributes := #[] }] 1057 2 #[133] #[{ accessFlags := 132, nameIndex := 11, descriptorIndex := 12, attributes := #[] }])
  fields := #[{ name := "modCount", type := .int, accessFlags := 132, slot := 0, constantValue := 0 }]
  methods := #[k9m0]
  instanceTypes := #[.int]
  staticTypes := #[]
  resolved := Array.replicate 218 none
  statics := none }

def pool10 : Array CpInfo := pool [(1, .class_ 2), (0, u "java/util/RandomAccess"), (0, .class_ 4), (0, u "java/lang/Object")] 2

/-- java/util/RandomAccess -/
def k10 : Class := { plain "java/util/RandomAccess" (some 0) with
  accessFlags := 1537
  interfaces := #[]
  cf := some (fileOf pool10 1 #[] #[] 1537 3 #[] #[])
  fields := #[]
  methods := #[]
  instanceTypes := #[]
  staticTypes := #[]
  resolved := Array.replicate 7 none
  statics := none }

def pool11 : Array CpInfo := pool [(1, .class_ 2), (0, u "java/lang/Cloneable"), (0, .class_ 4), (0, u "java/lang/Object")] 2

/-- java/lang/Cloneable -/
def k11 : Class := { plain "java/lang/Cloneable" (some 0) with
  accessFlags := 1537
  interfaces := #[]
  cf := some (fileOf pool11 1 #[] #[] 1537 3 #[] #[])
  fields := #[]
  methods := #[]
  instanceTypes := #[]
  staticTypes := #[]
  resolved := Array.replicate 7 none
  statics := none }

def pool12 : Array CpInfo := pool [(1, .class_ 2), (0, u "java/io/Serializable"), (0, .class_ 4), (0, u "java/lang/Object")] 2

/-- java/io/Serializable -/
def k12 : Class := { plain "java/io/Serializable" (some 0) with
  accessFlags := 1537
  interfaces := #[]
  cf := some (fileOf pool12 1 #[] #[] 1537 3 #[] #[])
  fields := #[]
  methods := #[]
  instanceTypes := #[]
  staticTypes := #[]
  resolved := Array.replicate 7 none
  statics := none }

def pool13 : Array CpInfo := pool [(1, .methodref 2 3), (0, .class_ 4), (0, .nameAndType 5 6), (0, u "java/util/AbstractList"), (0, u "<init>"), (0, u "()V"), (2, .fieldref 10 11), (0, .class_ 12), (0, .nameAndType 13 14), (0, u "java/util/ArrayList"), (0, u "elementData"), (0, u "[Ljava/lang/Object;"), (2, u "EMPTY_ELEMENTDATA"), (21, .fieldref 10 40), (0, .nameAndType 41 14), (0, u "DEFAULTCAPACITY_EMPTY_ELEMENTDATA"), (8, u "size"), (0, u "I"), (96, .class_ 149), (0, u "java/util/List"), (112, .class_ 263), (0, u "java/util/ArrayList$ListItr"), (3, .class_ 268), (0, u "java/util/ArrayList$Itr"), (7, .class_ 277), (0, u "java/util/ArrayList$SubList"), (12, .class_ 291), (0, u "java/util/ArrayList$ArrayListSpliterator"), (37, .class_ 330), (0, u "java/util/RandomAccess"), (0, .class_ 332), (0, u "java/lang/Cloneable"), (0, .class_ 334), (0, u "java/io/Serializable"), (0, u "serialVersionUID"), (0, u "J"), (3, u "DEFAULT_CAPACITY"), (159, .class_ 501), (0, u "java/util/ArrayList$SubList$2"), (0, .class_ 503), (0, u "java/util/ArrayList$SubList$1")] 5

def k13c0 : Code := { maxStack := 2, maxLocals := 1, code := jdk_38_method_2_code, exceptionTable := #[], attributes := #[] }
def k13m0 : Method := { name := "<init>", desc := "()V", sig := { parameters := [], returnType := none }, accessFlags := 1, code := some k13c0 }
/-- java/util/ArrayList -/
def k13 : Class := { plain "java/util/ArrayList" (some 9) with
  accessFlags := 33
  interfaces := #[8, 10, 11, 12]
  cf := some (fileOf pool13 10 #[.nestMembers #[290, 276, 500, 502, 262, 267]] #[{ accessFlags := 1, nameIndex := 5, descriptorIndex := 6, attributes := #[] }] 33 2 #[148, 329, 331, 333] #[{ accessFlags := 26, nameIndex := 335, descriptorIndex := 336, attributes := #[] }, { accessFlags := 26, nameIndex := 340, descriptorIndex := 51, attributes := #[] }, { accessFlags := 26, nameIndex := 17, descriptorIndex := 14, attributes := #[] }, { accessFlags := 26, nameIndex := 41, descriptorIndex := 14, attributes := #[] }, { accessFlags := 128, nameIndex := 13, descriptorIndex := 14, attributes := #[] }, { accessFlags := 2, nameIndex := 50, descriptorIndex := 51, attributes := #[] }])
  fields := #[{ name := "serialVersionUID", type := .long, accessFlags := 26, slot := 0, constantValue := 0 }, { name := "DEFAULT_CAPACITY", type := .int, accessFlags := 26, slot := 1, constantValue := 0 }, { name := "EMPTY_ELEMENTDATA", type := (.array (.object "java/lang/Object")), accessFlags := 26, slot := 2, constantValue := 0 }, { name := "DEFAULTCAPACITY_EMPTY_ELEMENTDATA", type := (.array (.object "java/lang/Object")), accessFlags := 26, slot := 3, constantValue := 0 }, { name := "elementData", type := (.array (.object "java/lang/Object")), accessFlags := 128, slot := 1, constantValue := 0 }, { name := "size", type := .int, accessFlags := 2, slot := 2, constantValue := 0 }]
  methods := #[k13m0]
  instanceTypes := #[.int, (.array (.object "java/lang/Object")), .int]
  staticTypes := #[.long, .int, (.array (.object "java/lang/Object")), (.array (.object "java/lang/Object"))]
  resolved := Array.replicate 509 none
  statics := some 0 }

/-- the primitive byte -/
def k14 : Class := { plain "byte" none with kind := .primitive 'B', accessFlags := 0x411 }
/-- [B -/
def k15 : Class := { plain "[B" (some 0) with kind := .array 14 .byte, interfaces := #[11, 12], accessFlags := 1041 }

/-- the primitive int -/
def k16 : Class := { plain "int" none with kind := .primitive 'I', accessFlags := 0x411 }
/-- [I -/
def k17 : Class := { plain "[I" (some 0) with kind := .array 16 .int, interfaces := #[11, 12], accessFlags := 1041 }

/-- [Ljava/lang/Object; -/
def k18 : Class := { plain "[Ljava/lang/Object;" (some 0) with kind := .array 0 (.object "java/lang/Object"), interfaces := #[11, 12], accessFlags := 1041 }

def heap : Heap := #[{ cls := 13, slots := #[.long 0, .int 0, .ref 1, .ref 2], vm := .statics 13 },
  { cls := 18, slots := #[], vm := .none },
  { cls := 18, slots := #[], vm := .none }]
def classes : Array Class := #[k0, k1, k2, k3, k4, k5, k6, k7, k8, k9, k10, k11, k12, k13, k14, k15, k16, k17, k18]
def interned : List (Array UInt16 × Addr) := []
def slotsUsed : Nat := 4
def theMethod : MethodId := ⟨1, 1⟩
def args0 : Array Value := #[.int 0, .int 1, .int 2, .int 3, .int 4]
def aboutOver (below : List Frame) : State where
  vm := { classes := classes, interned := interned.toArray }
  heap := heap
  slotsUsed := slotsUsed
  threads := #[{ frames := .invoking theMethod args0 :: below }]
def below0 : List Frame := [.native { method := ⟨0, 0⟩, args := #[] }]
def about1 : State := aboutOver below0
def p0 : Program := .bare "" "" ""
def e0 : Env := launch0.env 0 0 0
theorem w_frames : about1.frames = Frame.invoking theMethod args0 :: below0 := rfl
set_option maxRecDepth 65536 in
theorem w_args : argsFit about1.vm theMethod args0 = true := by decide +kernel
set_option maxRecDepth 65536 in
theorem w_heap : heapFits about1 = true := by decide +kernel
set_option maxRecDepth 65536 in
theorem w_runnable : about1.curStatus? = some .runnable := by decide +kernel
set_option maxRecDepth 65536 in
theorem w_alone : about1.alone = true := by decide +kernel
set_option maxRecDepth 65536 in
theorem w_named : about1.methodNamed? x = some theMethod := by decide +kernel
set_option maxRecDepth 65536 in
theorem w_hears : about1.hears theMethod below0 = true := by decide +kernel
set_option maxRecDepth 65536 in
theorem w_ripe : about1.ripe theMethod args0 below0 = true := by decide +kernel
theorem w_running : about1.status = .running := rfl
set_option maxRecDepth 65536 in
theorem w_room : about1.hasRoom e0.platform room_1 = true :=
  launch0.hasRoom_least _ room_1 (by decide +kernel) (by decide +kernel) (by decide +kernel) (by decide +kernel) (by decide +kernel) (by decide +kernel)
theorem allAtoms_all (ts : List Jvm.Cond) (a : Array Jvm.Value) (st : Jvm.State) : (allAtoms ts).before a st = ts.all (fun c => c.before a st) := by
  induction ts with
  | nil => rfl
  | cons c t ih =>
    show (Jvm.Cond.and c (allAtoms t)).before a st = _
    rw [Jvm.Cond.before_and, ih, List.all_cons]
def words1 : List Jvm.Cond := Jvm.Cond.code x code maxLocals ret :: tables_1
/-- a 'code' word, met by the world's own term for the bytes: nothing is compared byte by byte -/
theorem code_word {y : MethodName} {bytes : ByteArray} {mx : Nat} {rt : Option FieldType} {a : Array Value} {s : State} {m : MethodId} {meth : Method} {c : Code} (h1 : s.methodNamed? y = some m) (h2 : s.vm.method? m = some meth) (h3 : meth.code = some c) (h4 : c.code = bytes)
    (h5 : (c.maxLocals == mx && c.exceptionTable.isEmpty && decide (c.maxStack ≤ mostOperands) && decide (meth.sig.returnType = rt) && !meth.locks && decide (parseMethodDescriptor y.desc = some meth.sig)) = true) : (Jvm.Cond.code y bytes mx rt).before a s = true := by
  simp only [Bool.and_eq_true, beq_iff_eq, Bool.not_eq_true', decide_eq_true_eq] at h5
  obtain ⟨⟨⟨⟨⟨g1, g2⟩, g3⟩, g4⟩, g5⟩, g6⟩ := h5
  simp [Cond.before, Cond.holds, Cond.value, h1, h2, h3, h4, g1, g2, g3, g4, g5, g6]
def isCode : Jvm.Cond → Bool
  | .code _ _ _ _ => true
  | _ => false
theorem all_split {L : List Jvm.Cond} {P : Jvm.Cond → Bool} (h1 : L.all (fun c => isCode c || P c) = true) (h2 : ∀ c ∈ L.filter isCode, P c = true) : L.all P = true := by
  refine List.all_eq_true.mpr fun c hc => ?_
  have h := List.all_eq_true.mp h1 c hc
  rcases Bool.eq_false_or_eq_true (isCode c) with hi | hi
  · exact h2 c (List.mem_filter.mpr ⟨hc, hi⟩)
  · simpa [hi] using h
set_option maxRecDepth 65536 in
theorem w_c0 : (Jvm.Cond.code x code maxLocals ret).before args0 about1 = true := code_word (m := ⟨1, 1⟩) (meth := k1m1) (c := k1c1) (by decide +kernel) rfl rfl rfl (by decide +kernel)
set_option maxRecDepth 65536 in
theorem w_c1 : (Jvm.Cond.code ({ cls := "com/example/clew/clew/algebra/Step$Members", name := "<init>", desc := "([II)V" } : Jvm.MethodName) prog_53_method_1_code (3 : Nat) (Option.none : Option Jvm.ClassFile.FieldType)).before args0 about1 = true := code_word (m := ⟨3, 0⟩) (meth := k3m0) (c := k3c0) (by decide +kernel) rfl rfl rfl (by decide +kernel)
set_option maxRecDepth 65536 in
theorem w_c2 : (Jvm.Cond.code ({ cls := "com/example/clew/clew/algebra/Step", name := "<init>", desc := "([I)V" } : Jvm.MethodName) prog_50_method_1_code (2 : Nat) (Option.none : Option Jvm.ClassFile.FieldType)).before args0 about1 = true := code_word (m := ⟨2, 0⟩) (meth := k2m0) (c := k2c0) (by decide +kernel) rfl rfl rfl (by decide +kernel)
set_option maxRecDepth 65536 in
theorem w_c3 : (Jvm.Cond.code ({ cls := "java/lang/Object", name := "<init>", desc := "()V" } : Jvm.MethodName) object_method_1_code (1 : Nat) (Option.none : Option Jvm.ClassFile.FieldType)).before args0 about1 = true := code_word (m := ⟨0, 0⟩) (meth := k0m0) (c := k0c0) (by decide +kernel) rfl rfl rfl (by decide +kernel)
set_option maxRecDepth 65536 in
theorem w_c4 : (Jvm.Cond.code ({ cls := "java/util/ArrayList", name := "<init>", desc := "()V" } : Jvm.MethodName) jdk_38_method_2_code (1 : Nat) (Option.none : Option Jvm.ClassFile.FieldType)).before args0 about1 = true := code_word (m := ⟨13, 0⟩) (meth := k13m0) (c := k13c0) (by decide +kernel) rfl rfl rfl (by decide +kernel)
set_option maxRecDepth 65536 in
theorem w_c5 : (Jvm.Cond.code ({ cls := "java/util/AbstractList", name := "<init>", desc := "()V" } : Jvm.MethodName) jdk_39_method_1_code (1 : Nat) (Option.none : Option Jvm.ClassFile.FieldType)).before args0 about1 = true := code_word (m := ⟨9, 0⟩) (meth := k9m0) (c := k9c0) (by decide +kernel) rfl rfl rfl (by decide +kernel)
set_option maxRecDepth 65536 in
theorem w_c6 : (Jvm.Cond.code ({ cls := "java/util/AbstractCollection", name := "<init>", desc := "()V" } : Jvm.MethodName) jdk_22_method_1_code (1 : Nat) (Option.none : Option Jvm.ClassFile.FieldType)).before args0 about1 = true := code_word (m := ⟨6, 0⟩) (meth := k6m0) (c := k6c0) (by decide +kernel) rfl rfl rfl (by decide +kernel)
set_option maxRecDepth 65536 in
theorem w_c7 : (Jvm.Cond.code ({ cls := "com/example/clew/clew/algebra/Step$Members", name := "start", desc := "([I)V" } : Jvm.MethodName) prog_53_method_4_code (2 : Nat) (Option.none : Option Jvm.ClassFile.FieldType)).before args0 about1 = true := code_word (m := ⟨3, 1⟩) (meth := k3m1) (c := k3c1) (by decide +kernel) rfl rfl rfl (by decide +kernel)
set_option maxRecDepth 65536 in
theorem w_c8 : (Jvm.Cond.code ({ cls := "com/example/clew/clew/algebra/Step$Members", name := "advance", desc := "([I)Z" } : Jvm.MethodName) prog_53_method_5_code (2 : Nat) (Option.some Jvm.ClassFile.FieldType.boolean)).before args0 about1 = true := code_word (m := ⟨3, 2⟩) (meth := k3m2) (c := k3c2) (by decide +kernel) rfl rfl rfl (by decide +kernel)
set_option maxRecDepth 65536 in
theorem w_c9 : (Jvm.Cond.code ({ cls := "com/example/clew/clew/algebra/MembersAdvancePinLaw", name := "stepOk", desc := "(Z[IIIIIIII)Z" } : Jvm.MethodName) method_4_code (10 : Nat) (Option.some Jvm.ClassFile.FieldType.boolean)).before args0 about1 = true := code_word (m := ⟨1, 3⟩) (meth := k1m3) (c := k1c3) (by decide +kernel) rfl rfl rfl (by decide +kernel)
set_option maxRecDepth 65536 in
theorem w_c10 : (Jvm.Cond.code ({ cls := "com/example/clew/clew/algebra/MembersAdvancePinLaw", name := "expectedAt", desc := "(IIIIIII)I" } : Jvm.MethodName) method_3_code (7 : Nat) (Option.some Jvm.ClassFile.FieldType.int)).before args0 about1 = true := code_word (m := ⟨1, 2⟩) (meth := k1m2) (c := k1c2) (by decide +kernel) rfl rfl rfl (by decide +kernel)
set_option maxRecDepth 65536 in
theorem w_c11 : (Jvm.Cond.code ({ cls := "com/example/clew/clew/algebra/MembersAdvancePinLaw", name := "cell", desc := "([IIIII)Z" } : Jvm.MethodName) method_5_code (5 : Nat) (Option.some Jvm.ClassFile.FieldType.boolean)).before args0 about1 = true := code_word (m := ⟨1, 4⟩) (meth := k1m4) (c := k1c4) (by decide +kernel) rfl rfl rfl (by decide +kernel)
def codes1 : List Jvm.Cond := [Jvm.Cond.code x code maxLocals ret, Jvm.Cond.code ({ cls := "com/example/clew/clew/algebra/Step$Members", name := "<init>", desc := "([II)V" } : Jvm.MethodName) prog_53_method_1_code (3 : Nat) (Option.none : Option Jvm.ClassFile.FieldType), Jvm.Cond.code ({ cls := "com/example/clew/clew/algebra/Step", name := "<init>", desc := "([I)V" } : Jvm.MethodName) prog_50_method_1_code (2 : Nat) (Option.none : Option Jvm.ClassFile.FieldType), Jvm.Cond.code ({ cls := "java/lang/Object", name := "<init>", desc := "()V" } : Jvm.MethodName) object_method_1_code (1 : Nat) (Option.none : Option Jvm.ClassFile.FieldType), Jvm.Cond.code ({ cls := "java/util/ArrayList", name := "<init>", desc := "()V" } : Jvm.MethodName) jdk_38_method_2_code (1 : Nat) (Option.none : Option Jvm.ClassFile.FieldType), Jvm.Cond.code ({ cls := "java/util/AbstractList", name := "<init>", desc := "()V" } : Jvm.MethodName) jdk_39_method_1_code (1 : Nat) (Option.none : Option Jvm.ClassFile.FieldType), Jvm.Cond.code ({ cls := "java/util/AbstractCollection", name := "<init>", desc := "()V" } : Jvm.MethodName) jdk_22_method_1_code (1 : Nat) (Option.none : Option Jvm.ClassFile.FieldType), Jvm.Cond.code ({ cls := "com/example/clew/clew/algebra/Step$Members", name := "start", desc := "([I)V" } : Jvm.MethodName) prog_53_method_4_code (2 : Nat) (Option.none : Option Jvm.ClassFile.FieldType), Jvm.Cond.code ({ cls := "com/example/clew/clew/algebra/Step$Members", name := "advance", desc := "([I)Z" } : Jvm.MethodName) prog_53_method_5_code (2 : Nat) (Option.some Jvm.ClassFile.FieldType.boolean), Jvm.Cond.code ({ cls := "com/example/clew/clew/algebra/MembersAdvancePinLaw", name := "stepOk", desc := "(Z[IIIIIIII)Z" } : Jvm.MethodName) method_4_code (10 : Nat) (Option.some Jvm.ClassFile.FieldType.boolean), Jvm.Cond.code ({ cls := "com/example/clew/clew/algebra/MembersAdvancePinLaw", name := "expectedAt", desc := "(IIIIIII)I" } : Jvm.MethodName) method_3_code (7 : Nat) (Option.some Jvm.ClassFile.FieldType.int), Jvm.Cond.code ({ cls := "com/example/clew/clew/algebra/MembersAdvancePinLaw", name := "cell", desc := "([IIIII)Z" } : Jvm.MethodName) method_5_code (5 : Nat) (Option.some Jvm.ClassFile.FieldType.boolean)]
set_option maxRecDepth 65536 in
theorem codes_eq : words1.filter isCode = codes1 := rfl
theorem w_codes : ∀ c ∈ words1.filter isCode, c.before args0 about1 = true := by
  rw [codes_eq]
  intro c hc
  simp only [codes1, List.mem_cons, List.not_mem_nil, or_false] at hc
  rcases hc with rfl | rfl | rfl | rfl | rfl | rfl | rfl | rfl | rfl | rfl | rfl | rfl
  · exact w_c0
  · exact w_c1
  · exact w_c2
  · exact w_c3
  · exact w_c4
  · exact w_c5
  · exact w_c6
  · exact w_c7
  · exact w_c8
  · exact w_c9
  · exact w_c10
  · exact w_c11
set_option maxRecDepth 65536 in
theorem w_t1 : (words1.take 24).all (fun c => isCode c || c.before args0 about1) = true := by decide +kernel
set_option maxRecDepth 65536 in
theorem w_t2 : ((words1.drop 24).take 24).all (fun c => isCode c || c.before args0 about1) = true := by decide +kernel
set_option maxRecDepth 65536 in
theorem w_t3 : (((words1.drop 24).drop 24).take 24).all (fun c => isCode c || c.before args0 about1) = true := by decide +kernel
set_option maxRecDepth 65536 in
theorem w_t4 : (((words1.drop 24).drop 24).drop 24).all (fun c => isCode c || c.before args0 about1) = true := by decide +kernel
theorem w_tables : (allAtoms (Jvm.Cond.code x code maxLocals ret :: tables_1)).before args0 about1 = true := by
  rw [allAtoms_all]
  show words1.all (fun c => c.before args0 about1) = true
  refine all_split ?_ w_codes
  rw [← List.take_append_drop 24 words1, List.all_append, w_t1, ← List.take_append_drop 24 (words1.drop 24), List.all_append, w_t2, ← List.take_append_drop 24 ((words1.drop 24).drop 24), List.all_append, w_t3, w_t4]
  rfl
set_option maxRecDepth 65536 in
theorem w_rest : rest_1_c.before args0 about1 = true := by decide +kernel
set_option maxRecDepth 65536 in
theorem w_case : (Jvm.Cond.and given_1 narrow_1).before args0 about1 = true := by decide +kernel
theorem w_applies : (headSpec (Jvm.Cond.code x code maxLocals ret :: tables_1) room_1).applies x e0.platform about1 = true :=
  (Spec.applies_iff w_frames).mpr ⟨w_running, w_runnable, w_alone, w_named, w_hears, w_ripe, w_room, w_tables⟩
theorem atStart : AtStart classFile x code maxLocals ret World_1 tables_1 room_1 Calls_1 rest_1 Pre_1 launch0 p0 e0 about1 theMethod args0 below0 :=
  ⟨lists_1, trivial, launch0.admits_env _ _ _, launch0.least_env, fairChoices_fair.cas, fairChoices_fair.clock, w_frames, w_args, w_heap, w_applies, trivial, w_rest, w_case⟩
end start1
theorem witness_1 : WitnessClaimed_1 := ⟨start1.p0, start1.e0, start1.about1, start1.theMethod, start1.args0, start1.below0, start1.atStart⟩
end Jvm.Pilot.@@N@@
