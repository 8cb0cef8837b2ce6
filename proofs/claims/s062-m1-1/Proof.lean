import JvmDerived
import JvmDerived.Pilot.@@N@@Statement
import JvmDerived.Pilot.@@N@@Code
set_option linter.unusedVariables false
set_option linter.unusedSimpArgs false
namespace Jvm.Pilot.@@N@@
open Jvm Jvm.ClassFile Sem Op Lib Jvm.Free Jvm.Stand Jvm.LawKit Jvm.RoadKit Bundle Jvm.Pilot.@@N@@.Jvm.D
/-! from the state S the run comes to an end that QQ allows -/
def Goes (p : Program) (e : Env) (below : List Frame) (QQ : Outcome → State → Prop) (S : State) : Prop :=
  ∃ s₂ o, Steps p.tables e below S s₂ ∧ s₂.status = .running ∧ Ended s₂ below o ∧ QQ o s₂
theorem Goes.on {p : Program} {e : Env} {below : List Frame} {QQ : Outcome → State → Prop} {S S' : State} (h : ∀ t, Steps p.tables e below S' t → Steps p.tables e below S t) (g : Goes p e below QQ S') : Goes p e below QQ S := by
  obtain ⟨s₂, o, h1, h2⟩ := g
  exact ⟨s₂, o, h _ h1, h2⟩
theorem Goes.cast {p : Program} {e : Env} {below : List Frame} {QQ : Outcome → State → Prop} {T : State} {g g' : JFrame} (q : g = g') (k : Goes p e below QQ (T.setTop g')) : Goes p e below QQ (T.setTop g) := q ▸ k
def EndsQ (s : State) (Q : Option Value → Heap → List Loc → Prop) (kc ks : Nat) (o : Outcome) (U' : State) : Prop := ∃ v L, o = .returned v ∧ Q v U'.heap L ∧ FrameEnd s o U' L kc ks
/-- a result alone -/
def QP (x : Value) (h0 : Heap) (n0 : Nat) (v : Option Value) (h : Heap) (L : List Loc) : Prop := v = some x ∧ Fr n0 L ∧ h = h0
theorem own_enter {l : Launch} {y : MethodName} {bytes : ByteArray} {maxL : Nat} {rt : Option FieldType} {ws : List Jvm.Cond} {rm : Room} {as' : Array Value} {Q : Option Value → Heap → List Loc → Prop} {Z : State} {h0 : Heap} {kc ks : Nat} (hp : plainFor y = true)
    (body : ∀ (p : Program) (e : Env) (s : State) (m : MethodId) (below : List Frame) (meth : Method) (c : Code) (s₁ : State) (QQ : Outcome → State → Prop), (∀ o U', EndsQ s Q kc ks o U' → QQ o U') → p.tables.exec = Jvm.exec → c.code = bytes → c.maxLocals = maxL → s.vm.findClass y.cls = some m.cls → meth.name = y.name → meth.sig.returnType = rt → meth.locks = false → Z.Warmed39 s.vm → Stand p l e rm s m as' below meth c s₁ [] 0 0 → s₁.heap = h0 →
      Goes p e below QQ (s₁.setTop (entryFrame m as' maxL))) :
    MetFree l y (head1 (Jvm.Cond.code y bytes maxL rt :: ws) rm) (fun a U => a = as' ∧ Z.Warmed39 U.vm ∧ U.heap = h0) (fun _ _ _ _ _ => True) (fun _ U o U' => ∃ v L, o = .returned v ∧ Q v U'.heap L ∧ FrameEnd U o U' L kc ks) := by
  refine MetFree.of_bodySF hp hisR ?_
  intro p e s m args below meth c s₁ Bd hml0 hP hK
  obtain ⟨rfl, hZ, hh⟩ := hP
  exact body p e s m below meth c s₁ _ (fun o U' h => h) Bd.exec Bd.bytes hml0 (findClass_of_methodNamed Bd.named) (name_of_methodNamed Bd.named Bd.method).1 Bd.returns (BodyLoose.notSynchronized Bd) hZ (Stand.of_body Bd) (by rw [← hh, Bd.state]; rfl)
section Ret
variable {p : Program} {l : Launch} {e : Env} {R : Room} {s : State} {m : MethodId} {args : Array Value} {below : List Frame} {meth : Method} {c : Code} {T : State} {locs : List Loc} {cells slots kc ks : Nat} {QQ : Outcome → State → Prop} {Q : Option Value → Heap → List Loc → Prop}
theorem Goes.fin (X : Stand p l e R s m args below meth c T locs cells slots) (hlk : meth.locks = false) {v : Option Value} (hv : meth.sig.returnType = none → v = none) {g : JFrame}
    (step : ∀ fs : List Frame, (∀ (f : JFrame) (acts : List Action), f.method = m → f.locked = none → f.entered = [] → (doReturn e (T.setTop f) acts v).1 = T.setFrames fs) → Steps p.tables e below (T.setTop g) (T.setFrames fs))
    (hQQ : ∀ o U', EndsQ s Q kc ks o U' → QQ o U') (hq : Q v T.heap locs) (hc : cells ≤ kc) (hs : slots ≤ ks) : Goes p e below QQ (T.setTop g) := by
  obtain ⟨fs, hr, hrun, hended, hW, hsame⟩ := X.leave (v := v) hv hlk
  exact ⟨_, _, step fs hr, hrun, hended, hQQ _ _ ⟨v, locs, rfl, hq, ⟨v, rfl⟩, hW, hsame.mono hc hs⟩⟩
theorem Goes.rI (X : Stand p l e R s m args below meth c T locs cells slots) (hx : p.tables.exec = Jvm.exec) (hret : meth.sig.returnType = some .int) (hlk : meth.locks = false) {pc : Nat} {Ls : Array Slot} {z : Int32} {rest : List Value} (hd : decode c.code pc = .ok (.ireturn, 1))
    (hQQ : ∀ o U', EndsQ s Q kc ks o U' → QQ o U') (hq : Q (some (.int z)) T.heap locs) (hc : cells ≤ kc) (hs : slots ≤ ks) : Goes p e below QQ (T.setTop (mkF m pc Ls (.int z :: rest))) :=
  Goes.fin X hlk (v := some (.int z)) (fun h => by rw [hret] at h; cases h) (fun fs hr => retOut X hx hret rfl (Or.inl ⟨rfl, Or.inl rfl, z, rfl⟩) hd hr) hQQ hq hc hs
theorem Goes.rN (X : Stand p l e R s m args below meth c T locs cells slots) (hx : p.tables.exec = Jvm.exec) {t : FieldType} (hret : meth.sig.returnType = some t) (ht : t = .boolean ∨ t = .byte ∨ t = .char ∨ t = .short) (hlk : meth.locks = false) {pc : Nat} {Ls : Array Slot} {z : Int32} {rest : List Value} (hd : decode c.code pc = .ok (.ireturn, 1))
    (hQQ : ∀ o U', EndsQ s Q kc ks o U' → QQ o U') (hq : Q (some (.int (nar t z))) T.heap locs) (hc : cells ≤ kc) (hs : slots ≤ ks) : Goes p e below QQ (T.setTop (mkF m pc Ls (.int z :: rest))) :=
  Goes.fin X hlk (v := some (.int (nar t z))) (fun h => by rw [hret] at h; cases h) (fun fs hr => retN X hx hret ht hd hr) hQQ hq hc hs
theorem Goes.rJ (X : Stand p l e R s m args below meth c T locs cells slots) (hx : p.tables.exec = Jvm.exec) (hret : meth.sig.returnType = some .long) (hlk : meth.locks = false) {pc : Nat} {Ls : Array Slot} {z : Int64} {rest : List Value} (hd : decode c.code pc = .ok (.lreturn, 1))
    (hQQ : ∀ o U', EndsQ s Q kc ks o U' → QQ o U') (hq : Q (some (.long z)) T.heap locs) (hc : cells ≤ kc) (hs : slots ≤ ks) : Goes p e below QQ (T.setTop (mkF m pc Ls (.long z :: rest))) :=
  Goes.fin X hlk (v := some (.long z)) (fun h => by rw [hret] at h; cases h) (fun fs hr => retOut X hx hret rfl (Or.inr (Or.inl ⟨rfl, rfl, z, rfl⟩)) hd hr) hQQ hq hc hs
theorem Goes.rA (X : Stand p l e R s m args below meth c T locs cells slots) (hx : p.tables.exec = Jvm.exec) {t : FieldType} (hret : meth.sig.returnType = some t) (ht : t.isReference = true) {w : Value} (hw : w.isRef = true) (hlk : meth.locks = false) {pc : Nat} {Ls : Array Slot} {rest : List Value} (hd : decode c.code pc = .ok (.areturn, 1))
    (hQQ : ∀ o U', EndsQ s Q kc ks o U' → QQ o U') (hq : Q (some w) T.heap locs) (hc : cells ≤ kc) (hs : slots ≤ ks) : Goes p e below QQ (T.setTop (mkF m pc Ls (w :: rest))) :=
  Goes.fin X hlk (v := some w) (fun h => by rw [hret] at h; cases h) (fun fs hr => retOut X hx hret (by cases w <;> first | (cases hw; done) | (cases t <;> first | (cases ht; done) | rfl)) (Or.inr (Or.inr (Or.inr (Or.inr ⟨rfl, ht, hw⟩)))) hd hr) hQQ hq hc hs
theorem Goes.rV (X : Stand p l e R s m args below meth c T locs cells slots) (hx : p.tables.exec = Jvm.exec) (hret : meth.sig.returnType = none) (hlk : meth.locks = false) {pc : Nat} {Ls : Array Slot} (hd : decode c.code pc = .ok (.return_, 1))
    (hQQ : ∀ o U', EndsQ s Q kc ks o U' → QQ o U') (hq : Q none T.heap locs) (hc : cells ≤ kc) (hs : slots ≤ ks) : Goes p e below QQ (T.setTop (mkF m pc Ls [])) :=
  Goes.fin X hlk (v := none) (fun _ => rfl) (fun fs hr => X.returnOut hx hret hd hr) hQQ hq hc hs
end Ret
/-- what the law leaves: it returned 1, and nothing old was written -/
def QL (n0 : Nat) (v : Option Value) (h : Heap) (L : List Loc) : Prop := v = some (.int 1) ∧ Fr n0 L
/-- nothing returned, the heap as it was -/
def QV (h0 : Heap) (n0 : Nat) (v : Option Value) (h : Heap) (L : List Loc) : Prop := v = none ∧ Fr n0 L ∧ h = h0
theorem own_nsRoot {Z : State} {a0 : Array Value} {O K : String} {n : Nat} (w : (Jvm.Cond.noSuperclass O).before a0 Z = true) (wi : (Jvm.Cond.instantiable K n).before a0 Z = true) (hn : O ≠ K) : NS Z O K := by
  obtain ⟨c, k, h1, h2, h3, -, -⟩ := Cond.noSuperclass_spec w
  obtain ⟨t, kt, g1, -⟩ := Cond.instantiable_spec wi
  have ne := ids_ne h1 g1 hn
  refine ⟨c, t, h1, g1, fun fuel => ?_⟩
  cases fuel with
  | zero => rfl
  | succ f => simp [Vm.isSubclassAux, ne, h2, h3]
theorem own_nsNo {Z : State} {a0 : Array Value} {C S K : String} {n : Nat} (w : (Jvm.Cond.superclass C S).before a0 Z = true) (wi : (Jvm.Cond.instantiable K n).before a0 Z = true) (ns : NS Z C K) (hn : C ≠ K) : ∃ c t, Z.vm.findClass C = some c ∧ Z.vm.findClass K = some t ∧ Z.vm.assignable c t = false := by
  obtain ⟨c, t, h0, g0, n3⟩ := ns
  obtain ⟨p, k, kp, h1, h2, h3, h4, h5, -, h7⟩ := Cond.superclass_spec h0 w
  obtain ⟨t', kt, g1, g2, g5, g7, -⟩ := Cond.instantiable_spec wi
  cases g0.symm.trans g1
  have g8 : kt.isInterface = false := by
    cases hi : kt.isInterface with
    | false => rfl
    | true => rw [hi] at g7; cases g7
  have ne := ids_ne h0 g0 hn
  refine ⟨c, t, h0, g0, ?_⟩
  show Z.vm.assignableAux (255 + 1) c t = false
  simp [Vm.assignableAux, ne, h2, g2, h5, g5, g8, Vm.isSubclass, n3]
theorem own_len {args : Array Value} {s : State} {tt : Term} {a : Addr} {cl : Cell} {ty : FieldType} {k : Int32} (kn : Nat) (hk : k.toInt = kn) (ht : tt.eval args s none [] s = some (.ref a)) (A : Arr s s.heap a cl ty) (h : (Jvm.Cond.eq (Term.length tt) (Term.int k)).value args s none s [] = some true) : cl.slots.size = kn := by
  obtain ⟨x1, y1, e1, e2, k1, k2⟩ := cmp_v (Or.inl h)
  cases (Term.int_eval k).symm.trans e2
  obtain ⟨z1, rfl⟩ := k2
  have q := gotT (Cond.eq_ints e1 (Term.int_eval k)) h
  obtain ⟨a', cell, ha, harr, hsm, hv⟩ := Jvm.Lib.length_spec e1
  cases ht.symm.trans ha
  cases (Arr.fin (Vm.Alike.refl _) A).symm.trans harr
  have hz := Value.int.inj hv
  have hl := len_toInt hsm
  rw [← hz, q, hk] at hl
  omega
def QI (Z : State) (a1 : Addr) (p1 : Int64) (h0 : Heap) (n0 : Nat) (v : Option Value) (h : Heap) (L : List Loc) : Prop := v = none ∧ Fr n0 L ∧ Keep h0 h [a1] ∧ Fld Z h a1 "com/example/bindery/bindery/IntegerValue" "value" "J" (.long p1)
def QN (a1 : Addr) (h0 : Heap) (n0 : Nat) (v : Option Value) (h : Heap) (L : List Loc) : Prop := v = none ∧ Fr n0 L ∧ Keep h0 h [a1]
def QW (Z : State) (h0 : Heap) (n0 : Nat) (v : Option Value) (h : Heap) (L : List Loc) : Prop := ∃ b : Addr, v = some (.ref b) ∧ Fr n0 L ∧ Keep h0 h [] ∧ Exa Z h b "java/lang/Long"
/-- the cache's places hold Longs -/
def Els (Z : State) (cc : Cell) : Prop := ∀ j : Int32, ¬ j < 0 → j < (256 : Int32) → ∃ y : Addr, cc.slots[j.toNatClampNeg]? = some (.ref y) ∧ Exa Z Z.heap y "java/lang/Long"
theorem d2_0 : decode jdk_30_method_1_code 0 = .ok (.aload_n 0, 1) := by decide +kernel
theorem d2_1 : decode jdk_30_method_1_code 1 = .ok (.invokespecial 1, 3) := by decide +kernel
theorem d2_4 : decode jdk_30_method_1_code 4 = .ok (.return_, 1) := by decide +kernel
theorem pn_2 : plainFor (⟨"java/lang/Record", "<init>", "()V"⟩ : MethodName) = true := plainFor_of_name (show plainName "java/lang/Record" = true by first | (simp [plainName, overriddenIn]; done) | decide +kernel)
theorem ef_rmR (m : MethodId) (x0 : Addr) : entryFrame m #[(.ref x0)] 1 = mkF m 0 #[rv x0] [] := by first | (simp [entryFrame, mkF, argsToLocals, Value.category]; done) | rfl
set_option maxRecDepth 65536 in
set_option maxHeartbeats 40000000 in
theorem rmR (l : Launch) (Z : State) (a0 : Array Value) (hw : ∀ d ∈ tables_1, d.before a0 Z = true) (ws : List Jvm.Cond) (a1 : Addr) (h0 : Heap) (n0 : Nat) (Z0 : n0 ≤ h0.size)  :
    MetFree l (⟨"java/lang/Record", "<init>", "()V"⟩ : MethodName) (head1 (Jvm.Cond.code (⟨"java/lang/Record", "<init>", "()V"⟩ : MethodName) jdk_30_method_1_code 1 none :: ws) ({ frames := 1, cells := 0, slots := 0, locals := 12 } : Room)) (fun a U => a = #[(.ref a1)] ∧ Z.Warmed39 U.vm ∧ U.heap = h0) (fun _ _ _ _ _ => True) (fun _ U o U' => ∃ v L, o = .returned v ∧ QV h0 n0 v U'.heap L ∧ FrameEnd U o U' L ({ frames := 1, cells := 0, slots := 0, locals := 12 } : Room).cells ({ frames := 1, cells := 0, slots := 0, locals := 12 } : Room).slots) := by
  refine own_enter pn_2 ?_
  intro p e s m below meth c s₁ QQ hQQ hx hby hml hown hnm hret hlk hZ X0 e0
  have hown : s.vm.findClass "java/lang/Record" = some m.cls := hown
  have hml : c.maxLocals = 1 := hml
  have hret : meth.sig.returnType = none := hret
  have N0 := Fr.nil n0
  have K0 := Keep.refl h0 []
  refine Goes.cast (ef_rmR m a1) ?_
  show Goes p e below QQ (s₁.setTop (mkF m 0 #[rv a1] []))
  refine Goes.on (fun t k => XS.aloadN X0.here hx rfl (hb hby d2_0) rfl rfl k) ?_
  show Goes p e below QQ (s₁.setTop (mkF m 1 #[rv a1] [(.ref a1)]))
  obtain ⟨T1, X1, e1, st1⟩ := initO X0 hx hZ hown (hw _ (List.mem_of_getElem? (i := 11) rfl)) (hw _ (List.mem_of_getElem? (i := 12) rfl)) (hw _ (List.mem_of_getElem? (i := 13) rfl)) e0 (g := (mkF m 1 #[rv a1] [(.ref a1)])) rfl (by rw [hml]; rfl) rfl (hb hby d2_1) (by decide) (W := 0) (by show 2 * 0 + _ ≤ _; exact Nat.le_of_eq rfl) (by decide)
  refine Goes.on (fun t k => st1 t k) ?_
  show Goes p e below QQ (T1.setTop (mkF m 4 #[rv a1] []))
  exact Goes.rV X1 hx hret hlk (hb hby d2_4) hQQ ⟨rfl, N0, e1⟩ (by decide) (by decide)
theorem d8_0 : decode jdk_18_method_1_code 0 = .ok (.aload_n 0, 1) := by decide +kernel
theorem d8_1 : decode jdk_18_method_1_code 1 = .ok (.invokespecial 1, 3) := by decide +kernel
theorem d8_4 : decode jdk_18_method_1_code 4 = .ok (.return_, 1) := by decide +kernel
theorem pn_8 : plainFor (⟨"java/lang/Number", "<init>", "()V"⟩ : MethodName) = true := plainFor_of_name (show plainName "java/lang/Number" = true by first | (simp [plainName, overriddenIn]; done) | decide +kernel)
theorem ef_rmNu (m : MethodId) (x0 : Addr) : entryFrame m #[(.ref x0)] 1 = mkF m 0 #[rv x0] [] := by first | (simp [entryFrame, mkF, argsToLocals, Value.category]; done) | rfl
set_option maxRecDepth 65536 in
set_option maxHeartbeats 40000000 in
theorem rmNu (l : Launch) (Z : State) (a0 : Array Value) (hw : ∀ d ∈ tables_1, d.before a0 Z = true) (ws : List Jvm.Cond) (a1 : Addr) (h0 : Heap) (n0 : Nat) (Z0 : n0 ≤ h0.size)  :
    MetFree l (⟨"java/lang/Number", "<init>", "()V"⟩ : MethodName) (head1 (Jvm.Cond.code (⟨"java/lang/Number", "<init>", "()V"⟩ : MethodName) jdk_18_method_1_code 1 none :: ws) ({ frames := 1, cells := 0, slots := 0, locals := 12 } : Room)) (fun a U => a = #[(.ref a1)] ∧ Z.Warmed39 U.vm ∧ U.heap = h0) (fun _ _ _ _ _ => True) (fun _ U o U' => ∃ v L, o = .returned v ∧ QV h0 n0 v U'.heap L ∧ FrameEnd U o U' L ({ frames := 1, cells := 0, slots := 0, locals := 12 } : Room).cells ({ frames := 1, cells := 0, slots := 0, locals := 12 } : Room).slots) := by
  refine own_enter pn_8 ?_
  intro p e s m below meth c s₁ QQ hQQ hx hby hml hown hnm hret hlk hZ X0 e0
  have hown : s.vm.findClass "java/lang/Number" = some m.cls := hown
  have hml : c.maxLocals = 1 := hml
  have hret : meth.sig.returnType = none := hret
  have N0 := Fr.nil n0
  have K0 := Keep.refl h0 []
  refine Goes.cast (ef_rmNu m a1) ?_
  show Goes p e below QQ (s₁.setTop (mkF m 0 #[rv a1] []))
  refine Goes.on (fun t k => XS.aloadN X0.here hx rfl (hb hby d8_0) rfl rfl k) ?_
  show Goes p e below QQ (s₁.setTop (mkF m 1 #[rv a1] [(.ref a1)]))
  obtain ⟨T1, X1, e1, st1⟩ := initO X0 hx hZ hown (hw _ (List.mem_of_getElem? (i := 57) rfl)) (hw _ (List.mem_of_getElem? (i := 12) rfl)) (hw _ (List.mem_of_getElem? (i := 13) rfl)) e0 (g := (mkF m 1 #[rv a1] [(.ref a1)])) rfl (by rw [hml]; rfl) rfl (hb hby d8_1) (by decide) (W := 0) (by show 2 * 0 + _ ≤ _; exact Nat.le_of_eq rfl) (by decide)
  refine Goes.on (fun t k => st1 t k) ?_
  show Goes p e below QQ (T1.setTop (mkF m 4 #[rv a1] []))
  exact Goes.rV X1 hx hret hlk (hb hby d8_4) hQQ ⟨rfl, N0, e1⟩ (by decide) (by decide)
theorem d1_0 : decode prog_129_method_1_code 0 = .ok (.aload_n 0, 1) := by decide +kernel
theorem d1_1 : decode prog_129_method_1_code 1 = .ok (.invokespecial 1, 3) := by decide +kernel
theorem d1_4 : decode prog_129_method_1_code 4 = .ok (.aload_n 0, 1) := by decide +kernel
theorem d1_5 : decode prog_129_method_1_code 5 = .ok (.lload_n 1, 1) := by decide +kernel
theorem d1_6 : decode prog_129_method_1_code 6 = .ok (.putfield 7, 3) := by decide +kernel
theorem d1_9 : decode prog_129_method_1_code 9 = .ok (.return_, 1) := by decide +kernel
theorem pn_1 : plainFor (⟨"com/example/bindery/bindery/IntegerValue", "<init>", "(J)V"⟩ : MethodName) = true := plainFor_of_name (show plainName "com/example/bindery/bindery/IntegerValue" = true by first | (simp [plainName, overriddenIn]; done) | decide +kernel)
theorem ef_rm1 (m : MethodId) (x0 : Addr) (x1 : Int64) : entryFrame m #[(.ref x0), (.long x1)] 3 = mkF m 0 #[rv x0, .val (.long x1), .second] [] := by first | (simp [entryFrame, mkF, argsToLocals, Value.category]; done) | rfl
theorem pd_0 : parseMethodDescriptor "()V" = some ⟨[], none⟩ := by decide +kernel
set_option maxRecDepth 65536 in
set_option maxHeartbeats 40000000 in
theorem rm1 (l : Launch) (Z : State) (a0 : Array Value) (hw : ∀ d ∈ tables_1, d.before a0 Z = true) (ws : List Jvm.Cond) (a1 : Addr) (p1 : Int64) (h0 : Heap) (n0 : Nat) (Z0 : n0 ≤ h0.size) (E_a1 : Exa Z h0 a1 "com/example/bindery/bindery/IntegerValue") (F_value_a1 : Fld Z h0 a1 "com/example/bindery/bindery/IntegerValue" "value" "J" (.long (0 : Int64))) (g_a1 : n0 ≤ a1) :
    MetFree l (⟨"com/example/bindery/bindery/IntegerValue", "<init>", "(J)V"⟩ : MethodName) (head1 (Jvm.Cond.code (⟨"com/example/bindery/bindery/IntegerValue", "<init>", "(J)V"⟩ : MethodName) prog_129_method_1_code 3 none :: ws) ({ frames := 2, cells := 0, slots := 0, locals := 24 } : Room)) (fun a U => a = #[(.ref a1), (.long p1)] ∧ Z.Warmed39 U.vm ∧ U.heap = h0) (fun _ _ _ _ _ => True) (fun _ U o U' => ∃ v L, o = .returned v ∧ QI Z a1 p1 h0 n0 v U'.heap L ∧ FrameEnd U o U' L ({ frames := 2, cells := 0, slots := 0, locals := 24 } : Room).cells ({ frames := 2, cells := 0, slots := 0, locals := 24 } : Room).slots) := by
  refine own_enter pn_1 ?_
  intro p e s m below meth c s₁ QQ hQQ hx hby hml hown hnm hret hlk hZ X0 e0
  have hown : s.vm.findClass "com/example/bindery/bindery/IntegerValue" = some m.cls := hown
  have hml : c.maxLocals = 3 := hml
  have hret : meth.sig.returnType = none := hret
  have N0 := Fr.nil n0
  have K0 := Keep.refl h0 [a1]
  refine Goes.cast (ef_rm1 m a1 p1) ?_
  show Goes p e below QQ (s₁.setTop (mkF m 0 #[rv a1, .val (.long p1), .second] []))
  refine Goes.on (fun t k => XS.aloadN X0.here hx rfl (hb hby d1_0) rfl rfl k) ?_
  show Goes p e below QQ (s₁.setTop (mkF m 1 #[rv a1, .val (.long p1), .second] [(.ref a1)]))
  obtain ⟨_, _, ⟨T1, L1, k1, n1⟩, -, X1, ⟨Lc1, hQ1, l1, y1, z1⟩, st1⟩ := X0.specialBack hx (y := (⟨"java/lang/Record", "<init>", "()V"⟩ : MethodName)) rfl hown (mvT hZ (hw _ (List.mem_of_getElem? (i := 6) rfl))) (mvT hZ (hw _ (List.mem_of_getElem? (i := 7) rfl))) (mvT hZ (hw _ (List.mem_of_getElem? (i := 10) rfl))) (by decide) (backOf (W := 0) (rmR l Z a0 hw [] a1 h0 n0 (Nat.le_trans Z0 K0.1)) hZ (hw _ (List.mem_of_getElem? (i := 10) rfl)) (hw _ (List.mem_of_getElem? (i := 9) rfl)) (by decide) (by decide)) (g := (mkF m 1 #[rv a1, .val (.long p1), .second] [(.ref a1)])) rfl (by rw [hml]; rfl) (Steps.refl _) (a := a1) (argsL := []) (rest := []) (lenOf pd_0 rfl) rfl (by show 2 * 0 + _ ≤ _; exact Nat.le_of_eq rfl) (hb hby d1_1) (fun _ _ => ⟨rfl, e0, (by decide : 0 + 0 ≤ _), (by decide : 0 + 0 ≤ _)⟩)
  dsimp only [Pt.U, Pt.locs, Pt.cells, Pt.slots] at X1 l1 y1 z1 st1 hQ1
  subst l1 y1 z1
  obtain ⟨rfl, M1, e1⟩ := hQ1
  have N1 := Fr.app N0 M1
  refine Goes.on (fun t k => st1.trans k) ?_
  show Goes p e below QQ (T1.setTop (mkF m 4 #[rv a1, .val (.long p1), .second] []))
  refine Goes.on (fun t k => XS.aloadN X1.here hx rfl (hb hby d1_4) rfl rfl k) ?_
  show Goes p e below QQ (T1.setTop (mkF m 5 #[rv a1, .val (.long p1), .second] [(.ref a1)]))
  refine Goes.on (fun t k => XS.lloadN X1.here hx rfl (hb hby d1_5) rfl k) ?_
  show Goes p e below QQ (T1.setTop (mkF m 6 #[rv a1, .val (.long p1), .second] [(.long p1), (.ref a1)]))
  obtain ⟨T2, h2, X2, e2, W2, st2⟩ := putF X1 hx hZ hown (host := "") (Or.inl (hw _ (List.mem_of_getElem? (i := 14) rfl))) Via.refl e1 F_value_a1 E_a1 (Or.inr ⟨(hw _ (List.mem_of_getElem? (i := 15) rfl)), rfl, hnm⟩) (hw _ (List.mem_of_getElem? (i := 1) rfl)) (ty := .long) (by decide) rfl rfl (g := (mkF m 6 #[rv a1, .val (.long p1), .second] [(.long p1), (.ref a1)])) rfl rfl (hb hby d1_6)
  have E_3 := E_a1.wr W2
  have K2 := K0.wr W2 (Or.inl (List.mem_of_getElem? (i := 0) rfl))
  have N2 := Fr.snoc X2 N1 g_a1
  have F_4 : Fld Z h2 a1 "com/example/bindery/bindery/IntegerValue" "value" "J" (.long p1) := F_value_a1.same W2
  refine Goes.on (fun t k => st2 t k) ?_
  show Goes p e below QQ (T2.setTop (mkF m 9 #[rv a1, .val (.long p1), .second] []))
  exact Goes.rV X2 hx hret hlk (hb hby d1_9) hQQ (by rw [e2]; exact ⟨rfl, N2, K2, F_4⟩) (by decide) (by decide)
theorem d6_0 : decode prog_14_method_1_code 0 = .ok (.aload_n 0, 1) := by decide +kernel
theorem d6_1 : decode prog_14_method_1_code 1 = .ok (.invokespecial 1, 3) := by decide +kernel
theorem d6_4 : decode prog_14_method_1_code 4 = .ok (.aload_n 0, 1) := by decide +kernel
theorem d6_5 : decode prog_14_method_1_code 5 = .ok (.iload_n 1, 1) := by decide +kernel
theorem d6_6 : decode prog_14_method_1_code 6 = .ok (.putfield 7, 3) := by decide +kernel
theorem d6_9 : decode prog_14_method_1_code 9 = .ok (.return_, 1) := by decide +kernel
theorem pn_6 : plainFor (⟨"com/example/bindery/bindery/BooleanValue", "<init>", "(Z)V"⟩ : MethodName) = true := plainFor_of_name (show plainName "com/example/bindery/bindery/BooleanValue" = true by first | (simp [plainName, overriddenIn]; done) | decide +kernel)
theorem ef_rm2 (m : MethodId) (x0 : Addr) (x1 : Int32) : entryFrame m #[(.ref x0), (.int x1)] 2 = mkF m 0 #[rv x0, iv x1] [] := by first | (simp [entryFrame, mkF, argsToLocals, Value.category]; done) | rfl
set_option maxRecDepth 65536 in
set_option maxHeartbeats 40000000 in
theorem rm2 (l : Launch) (Z : State) (a0 : Array Value) (hw : ∀ d ∈ tables_1, d.before a0 Z = true) (ws : List Jvm.Cond) (a1 : Addr) (p1 : Int32) (h0 : Heap) (n0 : Nat) (Z0 : n0 ≤ h0.size) (E_a1 : Exa Z h0 a1 "com/example/bindery/bindery/BooleanValue") (F_value_a1 : Fld Z h0 a1 "com/example/bindery/bindery/BooleanValue" "value" "Z" (.int 0)) (g_a1 : n0 ≤ a1) :
    MetFree l (⟨"com/example/bindery/bindery/BooleanValue", "<init>", "(Z)V"⟩ : MethodName) (head1 (Jvm.Cond.code (⟨"com/example/bindery/bindery/BooleanValue", "<init>", "(Z)V"⟩ : MethodName) prog_14_method_1_code 2 none :: ws) ({ frames := 2, cells := 0, slots := 0, locals := 24 } : Room)) (fun a U => a = #[(.ref a1), (.int p1)] ∧ Z.Warmed39 U.vm ∧ U.heap = h0) (fun _ _ _ _ _ => True) (fun _ U o U' => ∃ v L, o = .returned v ∧ QN a1 h0 n0 v U'.heap L ∧ FrameEnd U o U' L ({ frames := 2, cells := 0, slots := 0, locals := 24 } : Room).cells ({ frames := 2, cells := 0, slots := 0, locals := 24 } : Room).slots) := by
  refine own_enter pn_6 ?_
  intro p e s m below meth c s₁ QQ hQQ hx hby hml hown hnm hret hlk hZ X0 e0
  have hown : s.vm.findClass "com/example/bindery/bindery/BooleanValue" = some m.cls := hown
  have hml : c.maxLocals = 2 := hml
  have hret : meth.sig.returnType = none := hret
  have N0 := Fr.nil n0
  have K0 := Keep.refl h0 [a1]
  refine Goes.cast (ef_rm2 m a1 p1) ?_
  show Goes p e below QQ (s₁.setTop (mkF m 0 #[rv a1, iv p1] []))
  refine Goes.on (fun t k => XS.aloadN X0.here hx rfl (hb hby d6_0) rfl rfl k) ?_
  show Goes p e below QQ (s₁.setTop (mkF m 1 #[rv a1, iv p1] [(.ref a1)]))
  obtain ⟨_, _, ⟨T1, L1, k1, n1⟩, -, X1, ⟨Lc1, hQ1, l1, y1, z1⟩, st1⟩ := X0.specialBack hx (y := (⟨"java/lang/Record", "<init>", "()V"⟩ : MethodName)) rfl hown (mvT hZ (hw _ (List.mem_of_getElem? (i := 40) rfl))) (mvT hZ (hw _ (List.mem_of_getElem? (i := 7) rfl))) (mvT hZ (hw _ (List.mem_of_getElem? (i := 10) rfl))) (by decide) (backOf (W := 0) (rmR l Z a0 hw [] a1 h0 n0 (Nat.le_trans Z0 K0.1)) hZ (hw _ (List.mem_of_getElem? (i := 10) rfl)) (hw _ (List.mem_of_getElem? (i := 9) rfl)) (by decide) (by decide)) (g := (mkF m 1 #[rv a1, iv p1] [(.ref a1)])) rfl (by rw [hml]; rfl) (Steps.refl _) (a := a1) (argsL := []) (rest := []) (lenOf pd_0 rfl) rfl (by show 2 * 0 + _ ≤ _; exact Nat.le_of_eq rfl) (hb hby d6_1) (fun _ _ => ⟨rfl, e0, (by decide : 0 + 0 ≤ _), (by decide : 0 + 0 ≤ _)⟩)
  dsimp only [Pt.U, Pt.locs, Pt.cells, Pt.slots] at X1 l1 y1 z1 st1 hQ1
  subst l1 y1 z1
  obtain ⟨rfl, M1, e1⟩ := hQ1
  have N1 := Fr.app N0 M1
  refine Goes.on (fun t k => st1.trans k) ?_
  show Goes p e below QQ (T1.setTop (mkF m 4 #[rv a1, iv p1] []))
  refine Goes.on (fun t k => XS.aloadN X1.here hx rfl (hb hby d6_4) rfl rfl k) ?_
  show Goes p e below QQ (T1.setTop (mkF m 5 #[rv a1, iv p1] [(.ref a1)]))
  refine Goes.on (fun t k => XS.iloadN X1.here hx rfl (hb hby d6_5) rfl k) ?_
  show Goes p e below QQ (T1.setTop (mkF m 6 #[rv a1, iv p1] [(.int p1), (.ref a1)]))
  obtain ⟨T2, h2, X2, e2, W2, st2⟩ := putFN X1 hx hZ hown (hw _ (List.mem_of_getElem? (i := 41) rfl)) Via.refl e1 F_value_a1 E_a1 (Or.inr ⟨(hw _ (List.mem_of_getElem? (i := 42) rfl)), rfl, hnm⟩) (hw _ (List.mem_of_getElem? (i := 35) rfl)) (ty := .boolean) (v' := (.int (p1 &&& 1))) (by decide) rfl (fits_nar_bool _) (g := (mkF m 6 #[rv a1, iv p1] [(.int p1), (.ref a1)])) rfl rfl (hb hby d6_6)
  have E_3 := E_a1.wr W2
  have K2 := K0.wr W2 (Or.inl (List.mem_of_getElem? (i := 0) rfl))
  have N2 := Fr.snoc X2 N1 g_a1
  have F_4 : Fld Z h2 a1 "com/example/bindery/bindery/BooleanValue" "value" "Z" (.int (p1 &&& 1)) := F_value_a1.same W2
  refine Goes.on (fun t k => st2 t k) ?_
  show Goes p e below QQ (T2.setTop (mkF m 9 #[rv a1, iv p1] []))
  exact Goes.rV X2 hx hret hlk (hb hby d6_9) hQQ (by rw [e2]; exact ⟨rfl, N2, K2⟩) (by decide) (by decide)
theorem d7_0 : decode jdk_35_method_26_code 0 = .ok (.aload_n 0, 1) := by decide +kernel
theorem d7_1 : decode jdk_35_method_26_code 1 = .ok (.invokespecial 270, 3) := by decide +kernel
theorem d7_4 : decode jdk_35_method_26_code 4 = .ok (.aload_n 0, 1) := by decide +kernel
theorem d7_5 : decode jdk_35_method_26_code 5 = .ok (.lload_n 1, 1) := by decide +kernel
theorem d7_6 : decode jdk_35_method_26_code 6 = .ok (.putfield 273, 3) := by decide +kernel
theorem d7_9 : decode jdk_35_method_26_code 9 = .ok (.return_, 1) := by decide +kernel
theorem pn_7 : plainFor (⟨"java/lang/Long", "<init>", "(J)V"⟩ : MethodName) = true := plainFor_of_name (show plainName "java/lang/Long" = true by first | (simp [plainName, overriddenIn]; done) | decide +kernel)
theorem ef_rmLI (m : MethodId) (x0 : Addr) (x1 : Int64) : entryFrame m #[(.ref x0), (.long x1)] 3 = mkF m 0 #[rv x0, .val (.long x1), .second] [] := by first | (simp [entryFrame, mkF, argsToLocals, Value.category]; done) | rfl
set_option maxRecDepth 65536 in
set_option maxHeartbeats 40000000 in
theorem rmLI (l : Launch) (Z : State) (a0 : Array Value) (hw : ∀ d ∈ tables_1, d.before a0 Z = true) (ws : List Jvm.Cond) (a1 : Addr) (p1 : Int64) (h0 : Heap) (n0 : Nat) (Z0 : n0 ≤ h0.size) (E_a1 : Exa Z h0 a1 "java/lang/Long") (F_value_a1 : Fld Z h0 a1 "java/lang/Long" "value" "J" (.long (0 : Int64))) (g_a1 : n0 ≤ a1) :
    MetFree l (⟨"java/lang/Long", "<init>", "(J)V"⟩ : MethodName) (head1 (Jvm.Cond.code (⟨"java/lang/Long", "<init>", "(J)V"⟩ : MethodName) jdk_35_method_26_code 3 none :: ws) ({ frames := 2, cells := 0, slots := 0, locals := 24 } : Room)) (fun a U => a = #[(.ref a1), (.long p1)] ∧ Z.Warmed39 U.vm ∧ U.heap = h0) (fun _ _ _ _ _ => True) (fun _ U o U' => ∃ v L, o = .returned v ∧ QN a1 h0 n0 v U'.heap L ∧ FrameEnd U o U' L ({ frames := 2, cells := 0, slots := 0, locals := 24 } : Room).cells ({ frames := 2, cells := 0, slots := 0, locals := 24 } : Room).slots) := by
  refine own_enter pn_7 ?_
  intro p e s m below meth c s₁ QQ hQQ hx hby hml hown hnm hret hlk hZ X0 e0
  have hown : s.vm.findClass "java/lang/Long" = some m.cls := hown
  have hml : c.maxLocals = 3 := hml
  have hret : meth.sig.returnType = none := hret
  have N0 := Fr.nil n0
  have K0 := Keep.refl h0 [a1]
  refine Goes.cast (ef_rmLI m a1 p1) ?_
  show Goes p e below QQ (s₁.setTop (mkF m 0 #[rv a1, .val (.long p1), .second] []))
  refine Goes.on (fun t k => XS.aloadN X0.here hx rfl (hb hby d7_0) rfl rfl k) ?_
  show Goes p e below QQ (s₁.setTop (mkF m 1 #[rv a1, .val (.long p1), .second] [(.ref a1)]))
  obtain ⟨_, _, ⟨T1, L1, k1, n1⟩, -, X1, ⟨Lc1, hQ1, l1, y1, z1⟩, st1⟩ := X0.specialBack hx (y := (⟨"java/lang/Number", "<init>", "()V"⟩ : MethodName)) rfl hown (mvT hZ (hw _ (List.mem_of_getElem? (i := 51) rfl))) (mvT hZ (hw _ (List.mem_of_getElem? (i := 52) rfl))) (mvT hZ (hw _ (List.mem_of_getElem? (i := 56) rfl))) (by decide) (backOf (W := 0) (rmNu l Z a0 hw [] a1 h0 n0 (Nat.le_trans Z0 K0.1)) hZ (hw _ (List.mem_of_getElem? (i := 56) rfl)) (hw _ (List.mem_of_getElem? (i := 55) rfl)) (by decide) (by decide)) (g := (mkF m 1 #[rv a1, .val (.long p1), .second] [(.ref a1)])) rfl (by rw [hml]; rfl) (Steps.refl _) (a := a1) (argsL := []) (rest := []) (lenOf pd_0 rfl) rfl (by show 2 * 0 + _ ≤ _; exact Nat.le_of_eq rfl) (hb hby d7_1) (fun _ _ => ⟨rfl, e0, (by decide : 0 + 0 ≤ _), (by decide : 0 + 0 ≤ _)⟩)
  dsimp only [Pt.U, Pt.locs, Pt.cells, Pt.slots] at X1 l1 y1 z1 st1 hQ1
  subst l1 y1 z1
  obtain ⟨rfl, M1, e1⟩ := hQ1
  have N1 := Fr.app N0 M1
  refine Goes.on (fun t k => st1.trans k) ?_
  show Goes p e below QQ (T1.setTop (mkF m 4 #[rv a1, .val (.long p1), .second] []))
  refine Goes.on (fun t k => XS.aloadN X1.here hx rfl (hb hby d7_4) rfl rfl k) ?_
  show Goes p e below QQ (T1.setTop (mkF m 5 #[rv a1, .val (.long p1), .second] [(.ref a1)]))
  refine Goes.on (fun t k => XS.lloadN X1.here hx rfl (hb hby d7_5) rfl k) ?_
  show Goes p e below QQ (T1.setTop (mkF m 6 #[rv a1, .val (.long p1), .second] [(.long p1), (.ref a1)]))
  obtain ⟨T2, h2, X2, e2, W2, st2⟩ := putF X1 hx hZ hown (host := "") (Or.inl (hw _ (List.mem_of_getElem? (i := 58) rfl))) Via.refl e1 F_value_a1 E_a1 (Or.inr ⟨(hw _ (List.mem_of_getElem? (i := 59) rfl)), rfl, hnm⟩) (hw _ (List.mem_of_getElem? (i := 46) rfl)) (ty := .long) (by decide) rfl rfl (g := (mkF m 6 #[rv a1, .val (.long p1), .second] [(.long p1), (.ref a1)])) rfl rfl (hb hby d7_6)
  have E_3 := E_a1.wr W2
  have K2 := K0.wr W2 (Or.inl (List.mem_of_getElem? (i := 0) rfl))
  have N2 := Fr.snoc X2 N1 g_a1
  have F_4 : Fld Z h2 a1 "java/lang/Long" "value" "J" (.long p1) := F_value_a1.same W2
  refine Goes.on (fun t k => st2 t k) ?_
  show Goes p e below QQ (T2.setTop (mkF m 9 #[rv a1, .val (.long p1), .second] []))
  exact Goes.rV X2 hx hret hlk (hb hby d7_9) hQQ (by rw [e2]; exact ⟨rfl, N2, K2⟩) (by decide) (by decide)
theorem own_idx (p1 : Int64) (g1 : ¬ p1 < (-128 : Int64)) (g2 : ¬ (127 : Int64) < p1) : ¬ (p1.toInt32 + (128 : Int32)) < 0 ∧ (p1.toInt32 + (128 : Int32)) < (256 : Int32) := by
  have q := c_l2i p1
  have r := c_iadd p1.toInt32 (128 : Int32)
  have s1 := rng32 p1.toInt32
  have s2 := rng32 (p1.toInt32 + (128 : Int32))
  have e1 : (128 : Int32).toInt = 128 := by decide
  have e2 : (256 : Int32).toInt = 256 := by decide
  have e0 : (0 : Int32).toInt = 0 := by decide
  have f1 : (-128 : Int64).toInt = -128 := by decide
  have f2 : (127 : Int64).toInt = 127 := by decide
  rw [Int64.lt_iff_toInt_lt] at g1 g2
  rw [Int32.lt_iff_toInt_lt, Int32.lt_iff_toInt_lt, e0, e2]
  omega
theorem d5_0 : decode jdk_35_method_24_code 0 = .ok (.sipush 128, 3) := by decide +kernel
theorem d5_3 : decode jdk_35_method_24_code 3 = .ok (.istore_n 2, 1) := by decide +kernel
theorem d5_4 : decode jdk_35_method_24_code 4 = .ok (.lload_n 0, 1) := by decide +kernel
theorem d5_5 : decode jdk_35_method_24_code 5 = .ok (.ldc2_w 230, 3) := by decide +kernel
theorem d5_8 : decode jdk_35_method_24_code 8 = .ok (.lcmp, 1) := by decide +kernel
theorem d5_9 : decode jdk_35_method_24_code 9 = .ok (.ifCond .lt 22, 3) := by decide +kernel
theorem d5_12 : decode jdk_35_method_24_code 12 = .ok (.lload_n 0, 1) := by decide +kernel
theorem d5_13 : decode jdk_35_method_24_code 13 = .ok (.ldc2_w 232, 3) := by decide +kernel
theorem d5_16 : decode jdk_35_method_24_code 16 = .ok (.lcmp, 1) := by decide +kernel
theorem d5_17 : decode jdk_35_method_24_code 17 = .ok (.ifCond .gt 14, 3) := by decide +kernel
theorem d5_20 : decode jdk_35_method_24_code 20 = .ok (.getstatic 234, 3) := by decide +kernel
theorem d5_23 : decode jdk_35_method_24_code 23 = .ok (.lload_n 0, 1) := by decide +kernel
theorem d5_24 : decode jdk_35_method_24_code 24 = .ok (.l2i, 1) := by decide +kernel
theorem d5_25 : decode jdk_35_method_24_code 25 = .ok (.sipush 128, 3) := by decide +kernel
theorem d5_28 : decode jdk_35_method_24_code 28 = .ok (.iadd, 1) := by decide +kernel
theorem d5_29 : decode jdk_35_method_24_code 29 = .ok (.aaload, 1) := by decide +kernel
theorem d5_30 : decode jdk_35_method_24_code 30 = .ok (.areturn, 1) := by decide +kernel
theorem d5_31 : decode jdk_35_method_24_code 31 = .ok (.new 1, 3) := by decide +kernel
theorem d5_34 : decode jdk_35_method_24_code 34 = .ok (.dup, 1) := by decide +kernel
theorem d5_35 : decode jdk_35_method_24_code 35 = .ok (.lload_n 0, 1) := by decide +kernel
theorem d5_36 : decode jdk_35_method_24_code 36 = .ok (.invokespecial 240, 3) := by decide +kernel
theorem d5_39 : decode jdk_35_method_24_code 39 = .ok (.areturn, 1) := by decide +kernel
theorem pn_5 : plainFor (⟨"java/lang/Long", "valueOf", "(J)Ljava/lang/Long;"⟩ : MethodName) = true := plainFor_of_name (show plainName "java/lang/Long" = true by first | (simp [plainName, overriddenIn]; done) | decide +kernel)
theorem ef_rmVo (m : MethodId) (x0 : Int64) : entryFrame m #[(.long x0)] 3 = mkF m 0 #[.val (.long x0), .second, .unset] [] := by first | (simp [entryFrame, mkF, argsToLocals, Value.category]; done) | rfl
theorem pd_1 : parseMethodDescriptor "(J)V" = some ⟨[.long], none⟩ := by decide +kernel
set_option maxRecDepth 65536 in
set_option maxHeartbeats 40000000 in
theorem rmVo (l : Launch) (Z : State) (a0 : Array Value) (hw : ∀ d ∈ tables_1, d.before a0 Z = true) (ws : List Jvm.Cond) (p1 : Int64) (xC : Addr) (cc : Cell) (h0 : Heap) (n0 : Nat) (Z0 : n0 ≤ h0.size) (S_cache : Sta Z Z.heap "java/lang/Long$LongCache" "cache" "[Ljava/lang/Long;" (.ref xC)) (O_0 : Old Z n0 h0) (A_c : Arr Z Z.heap xC cc (.object "java/lang/Long")) (sz_c : cc.slots.size = 256) (El : Els Z cc) :
    MetFree l (⟨"java/lang/Long", "valueOf", "(J)Ljava/lang/Long;"⟩ : MethodName) (head1 (Jvm.Cond.code (⟨"java/lang/Long", "valueOf", "(J)Ljava/lang/Long;"⟩ : MethodName) jdk_35_method_24_code 3 (some (.object "java/lang/Long")) :: ws) ({ frames := 3, cells := 1, slots := 1, locals := 39 } : Room)) (fun a U => a = #[(.long p1)] ∧ Z.Warmed39 U.vm ∧ U.heap = h0) (fun _ _ _ _ _ => True) (fun _ U o U' => ∃ v L, o = .returned v ∧ QW Z h0 n0 v U'.heap L ∧ FrameEnd U o U' L ({ frames := 3, cells := 1, slots := 1, locals := 39 } : Room).cells ({ frames := 3, cells := 1, slots := 1, locals := 39 } : Room).slots) := by
  refine own_enter pn_5 ?_
  intro p e s m below meth c s₁ QQ hQQ hx hby hml hown hnm hret hlk hZ X0 e0
  have hown : s.vm.findClass "java/lang/Long" = some m.cls := hown
  have hml : c.maxLocals = 3 := hml
  have hret : meth.sig.returnType = some (.object "java/lang/Long") := hret
  have N0 := Fr.nil n0
  have K0 := Keep.refl h0 []
  refine Goes.cast (ef_rmVo m p1) ?_
  show Goes p e below QQ (s₁.setTop (mkF m 0 #[.val (.long p1), .second, .unset] []))
  refine Goes.on (fun t k => XS.sipush X0.here hx rfl (hb hby d5_0) k) ?_
  show Goes p e below QQ (s₁.setTop (mkF m 3 #[.val (.long p1), .second, .unset] [(.int 128)]))
  refine Goes.on (fun t k => XS.istoreN X0.here hx rfl (hb hby d5_3) rfl (l' := #[.val (.long p1), .second, iv 128]) rfl k) ?_
  show Goes p e below QQ (s₁.setTop (mkF m 4 #[.val (.long p1), .second, iv 128] []))
  refine Goes.on (fun t k => XS.lloadN X0.here hx rfl (hb hby d5_4) rfl k) ?_
  show Goes p e below QQ (s₁.setTop (mkF m 5 #[.val (.long p1), .second, iv 128] [(.long p1)]))
  refine Goes.on (fun t k => X0.ldc2Long hx hown (mvT hZ (hw _ (List.mem_of_getElem? (i := 27) rfl))) (g := (mkF m 5 #[.val (.long p1), .second, iv 128] [(.long p1)])) rfl (hb hby d5_5) t k) ?_
  show Goes p e below QQ (s₁.setTop (mkF m 8 #[.val (.long p1), .second, iv 128] [(.long (-128 : Int64)), (.long p1)]))
  refine Goes.on (fun t k => XS.lcmp X0.here hx rfl (hb hby d5_8) rfl k) ?_
  show Goes p e below QQ (s₁.setTop (mkF m 9 #[.val (.long p1), .second, iv 128] [(.int (lcmpW p1 (-128 : Int64)))]))
  by_cases hb1 : p1 < (-128 : Int64)
  · refine Goes.on (fun t k => XS.ifYes X0.here hx rfl (pc0 := 9) (pc' := 31) rfl (hb hby d5_9) rfl ((if0 _ _).trans (tlt ((lw_lt p1 (-128 : Int64)).mpr hb1)).1) (by decide) (by decide) k) ?_
    show Goes p e below QQ (s₁.setTop (mkF m 31 #[.val (.long p1), .second, iv 128] []))
    obtain ⟨T2, h2, X2, e2, E2, A2, D2, -, st2⟩ := newO X0 hx hZ hown (hw _ (List.mem_of_getElem? (i := 45) rfl)) (hw _ (List.mem_of_getElem? (i := 46) rfl)) (hw _ (List.mem_of_getElem? (i := 25) rfl)) e0 (g := (mkF m 31 #[.val (.long p1), .second, iv 128] [])) rfl (hb hby d5_31) (by decide) (by decide)
    obtain ⟨b2, g2⟩ : ∃ z, z = h0.size := ⟨_, rfl⟩
    rw [← g2] at A2 D2 st2
    have sz_b2 : h0.size ≤ b2 := Nat.le_trans K0.1 (Nat.le_of_eq g2.symm)
    have g_b2 : n0 ≤ b2 := Nat.le_trans Z0 sz_b2
    have O_3 := O_0.ext E2
    have K2 := K0.ext E2
    have F_4 : Fld Z h2 b2 "java/lang/Long" "value" "J" (.long (0 : Int64)) := D2 (Or.inr (hw _ (List.mem_of_getElem? (i := 59) rfl))) (ty := .long) (by decide)
    refine Goes.on (fun t k => st2 t k) ?_
    show Goes p e below QQ (T2.setTop (mkF m 34 #[.val (.long p1), .second, iv 128] [(.ref b2)]))
    refine Goes.on (fun t k => XS.dup X2.here hx rfl (hb hby d5_34) rfl rfl k) ?_
    show Goes p e below QQ (T2.setTop (mkF m 35 #[.val (.long p1), .second, iv 128] [(.ref b2), (.ref b2)]))
    refine Goes.on (fun t k => XS.lloadN X2.here hx rfl (hb hby d5_35) rfl k) ?_
    show Goes p e below QQ (T2.setTop (mkF m 36 #[.val (.long p1), .second, iv 128] [(.long p1), (.ref b2), (.ref b2)]))
    obtain ⟨_, _, ⟨T5, L5, k5, n5⟩, -, X5, ⟨Lc5, hQ5, l5, y5, z5⟩, st5⟩ := X2.specialBack hx (y := (⟨"java/lang/Long", "<init>", "(J)V"⟩ : MethodName)) rfl hown (mvT hZ (hw _ (List.mem_of_getElem? (i := 47) rfl))) (mvT hZ (hw _ (List.mem_of_getElem? (i := 48) rfl))) (mvT hZ (hw _ (List.mem_of_getElem? (i := 50) rfl))) (by decide) (backOf (W := 1) (rmLI l Z a0 hw [] b2 p1 h2 n0 (Nat.le_trans Z0 K2.1) A2 F_4 g_b2) hZ (hw _ (List.mem_of_getElem? (i := 50) rfl)) (hw _ (List.mem_of_getElem? (i := 25) rfl)) (by decide) (by decide)) (g := (mkF m 36 #[.val (.long p1), .second, iv 128] [(.long p1), (.ref b2), (.ref b2)])) rfl (by rw [hml]; rfl) (Steps.refl _) (a := b2) (argsL := [(.long p1)]) (rest := [(.ref b2)]) (lenOf pd_1 rfl) rfl (by show 2 * 0 + _ ≤ _; exact Nat.le_of_eq rfl) (hb hby d5_36) (fun _ _ => ⟨rfl, e2, (by decide : 1 + 0 ≤ _), (by decide : 1 + 0 ≤ _)⟩)
    dsimp only [Pt.U, Pt.locs, Pt.cells, Pt.slots] at X5 l5 y5 z5 st5 hQ5
    subst l5 y5 z5
    obtain ⟨rfl, M5, Kc⟩ := hQ5
    have N5 := Fr.app N0 M5
    refine Goes.on (fun t k => st5.trans k) ?_
    have O_6 := O_3.keep Kc (allS g_b2 all0)
    have A2_7 := A2.keep Kc
    have K9 := K2.trans Kc (allS (Or.inr sz_b2) all0)
    show Goes p e below QQ (T5.setTop (mkF m 39 #[.val (.long p1), .second, iv 128] [(.ref b2)]))
    exact Goes.rA X5 hx hret rfl rfl hlk (hb hby d5_39) hQQ ⟨b2, rfl, N5, K9, A2_7⟩ (by decide) (by decide)
  · refine Goes.on (fun t k => XS.ifNo X0.here hx rfl (hb hby d5_9) rfl ((if0 _ _).trans (flt (mt (lw_lt p1 (-128 : Int64)).mp hb1)).1) k) ?_
    show Goes p e below QQ (s₁.setTop (mkF m 12 #[.val (.long p1), .second, iv 128] []))
    refine Goes.on (fun t k => XS.lloadN X0.here hx rfl (hb hby d5_12) rfl k) ?_
    show Goes p e below QQ (s₁.setTop (mkF m 13 #[.val (.long p1), .second, iv 128] [(.long p1)]))
    refine Goes.on (fun t k => X0.ldc2Long hx hown (mvT hZ (hw _ (List.mem_of_getElem? (i := 28) rfl))) (g := (mkF m 13 #[.val (.long p1), .second, iv 128] [(.long p1)])) rfl (hb hby d5_13) t k) ?_
    show Goes p e below QQ (s₁.setTop (mkF m 16 #[.val (.long p1), .second, iv 128] [(.long (127 : Int64)), (.long p1)]))
    refine Goes.on (fun t k => XS.lcmp X0.here hx rfl (hb hby d5_16) rfl k) ?_
    show Goes p e below QQ (s₁.setTop (mkF m 17 #[.val (.long p1), .second, iv 128] [(.int (lcmpW p1 (127 : Int64)))]))
    by_cases hb10 : (127 : Int64) < p1
    · refine Goes.on (fun t k => XS.ifYes X0.here hx rfl (pc0 := 17) (pc' := 31) rfl (hb hby d5_17) rfl ((if0 _ _).trans (tlt ((lw_gt p1 (127 : Int64)).mpr hb10)).2.2.1) (by decide) (by decide) k) ?_
      show Goes p e below QQ (s₁.setTop (mkF m 31 #[.val (.long p1), .second, iv 128] []))
      obtain ⟨T11, h11, X11, e11, E11, A11, D11, -, st11⟩ := newO X0 hx hZ hown (hw _ (List.mem_of_getElem? (i := 45) rfl)) (hw _ (List.mem_of_getElem? (i := 46) rfl)) (hw _ (List.mem_of_getElem? (i := 25) rfl)) e0 (g := (mkF m 31 #[.val (.long p1), .second, iv 128] [])) rfl (hb hby d5_31) (by decide) (by decide)
      obtain ⟨b11, g11⟩ : ∃ z, z = h0.size := ⟨_, rfl⟩
      rw [← g11] at A11 D11 st11
      have sz_b11 : h0.size ≤ b11 := Nat.le_trans K0.1 (Nat.le_of_eq g11.symm)
      have g_b11 : n0 ≤ b11 := Nat.le_trans Z0 sz_b11
      have O_12 := O_0.ext E11
      have K11 := K0.ext E11
      have F_13 : Fld Z h11 b11 "java/lang/Long" "value" "J" (.long (0 : Int64)) := D11 (Or.inr (hw _ (List.mem_of_getElem? (i := 59) rfl))) (ty := .long) (by decide)
      refine Goes.on (fun t k => st11 t k) ?_
      show Goes p e below QQ (T11.setTop (mkF m 34 #[.val (.long p1), .second, iv 128] [(.ref b11)]))
      refine Goes.on (fun t k => XS.dup X11.here hx rfl (hb hby d5_34) rfl rfl k) ?_
      show Goes p e below QQ (T11.setTop (mkF m 35 #[.val (.long p1), .second, iv 128] [(.ref b11), (.ref b11)]))
      refine Goes.on (fun t k => XS.lloadN X11.here hx rfl (hb hby d5_35) rfl k) ?_
      show Goes p e below QQ (T11.setTop (mkF m 36 #[.val (.long p1), .second, iv 128] [(.long p1), (.ref b11), (.ref b11)]))
      obtain ⟨_, _, ⟨T14, L14, k14, n14⟩, -, X14, ⟨Lc14, hQ14, l14, y14, z14⟩, st14⟩ := X11.specialBack hx (y := (⟨"java/lang/Long", "<init>", "(J)V"⟩ : MethodName)) rfl hown (mvT hZ (hw _ (List.mem_of_getElem? (i := 47) rfl))) (mvT hZ (hw _ (List.mem_of_getElem? (i := 48) rfl))) (mvT hZ (hw _ (List.mem_of_getElem? (i := 50) rfl))) (by decide) (backOf (W := 1) (rmLI l Z a0 hw [] b11 p1 h11 n0 (Nat.le_trans Z0 K11.1) A11 F_13 g_b11) hZ (hw _ (List.mem_of_getElem? (i := 50) rfl)) (hw _ (List.mem_of_getElem? (i := 25) rfl)) (by decide) (by decide)) (g := (mkF m 36 #[.val (.long p1), .second, iv 128] [(.long p1), (.ref b11), (.ref b11)])) rfl (by rw [hml]; rfl) (Steps.refl _) (a := b11) (argsL := [(.long p1)]) (rest := [(.ref b11)]) (lenOf pd_1 rfl) rfl (by show 2 * 0 + _ ≤ _; exact Nat.le_of_eq rfl) (hb hby d5_36) (fun _ _ => ⟨rfl, e11, (by decide : 1 + 0 ≤ _), (by decide : 1 + 0 ≤ _)⟩)
      dsimp only [Pt.U, Pt.locs, Pt.cells, Pt.slots] at X14 l14 y14 z14 st14 hQ14
      subst l14 y14 z14
      obtain ⟨rfl, M14, Kc⟩ := hQ14
      have N14 := Fr.app N0 M14
      refine Goes.on (fun t k => st14.trans k) ?_
      have O_15 := O_12.keep Kc (allS g_b11 all0)
      have A11_16 := A11.keep Kc
      have K18 := K11.trans Kc (allS (Or.inr sz_b11) all0)
      show Goes p e below QQ (T14.setTop (mkF m 39 #[.val (.long p1), .second, iv 128] [(.ref b11)]))
      exact Goes.rA X14 hx hret rfl rfl hlk (hb hby d5_39) hQQ ⟨b11, rfl, N14, K18, A11_16⟩ (by decide) (by decide)
    · refine Goes.on (fun t k => XS.ifNo X0.here hx rfl (hb hby d5_17) rfl ((if0 _ _).trans (flt (mt (lw_gt p1 (127 : Int64)).mp hb10)).2.2.1) k) ?_
      show Goes p e below QQ (s₁.setTop (mkF m 20 #[.val (.long p1), .second, iv 128] []))
      obtain ⟨T19, X19, e19, st19⟩ := getS2 X0 hx hZ hown (host := "") (Or.inl (hw _ (List.mem_of_getElem? (i := 29) rfl))) Via.refl e0 (S_cache.ext O_0.2) (g := (mkF m 20 #[.val (.long p1), .second, iv 128] [])) rfl (hb hby d5_20)
      refine Goes.on (fun t k => st19 t k) ?_
      show Goes p e below QQ (T19.setTop (mkF m 23 #[.val (.long p1), .second, iv 128] [(.ref xC)]))
      refine Goes.on (fun t k => XS.lloadN X19.here hx rfl (hb hby d5_23) rfl k) ?_
      show Goes p e below QQ (T19.setTop (mkF m 24 #[.val (.long p1), .second, iv 128] [(.long p1), (.ref xC)]))
      refine Goes.on (fun t k => XS.l2i X19.here hx rfl (hb hby d5_24) rfl k) ?_
      show Goes p e below QQ (T19.setTop (mkF m 25 #[.val (.long p1), .second, iv 128] [(.int p1.toInt32), (.ref xC)]))
      refine Goes.on (fun t k => XS.sipush X19.here hx rfl (hb hby d5_25) k) ?_
      show Goes p e below QQ (T19.setTop (mkF m 28 #[.val (.long p1), .second, iv 128] [(.int 128), (.int p1.toInt32), (.ref xC)]))
      refine Goes.on (fun t k => XS.iadd X19.here hx rfl (hb hby d5_28) rfl k) ?_
      show Goes p e below QQ (T19.setTop (mkF m 29 #[.val (.long p1), .second, iv 128] [(.int (p1.toInt32 + (128 : Int32))), (.ref xC)]))
      have hj := own_idx p1 hb1 hb10
      obtain ⟨y, hy, Ey⟩ := El _ hj.1 hj.2
      have Ar := A_c.ext O_0.2
      have hin := inb_of (j := (p1.toInt32 + (128 : Int32))) (z := (256 : Int32)) (sz_c.trans rfl) hj
      refine Goes.on (fun t k => X19.aaload hx (j := (p1.toInt32 + (128 : Int32))) (v := .ref y) (by rw [e19]; exact Ar.1) (State.isArrayOf_alike hZ.alike Ar.2.1) rfl Ar.2.2 hin hy (g := (mkF m 29 #[.val (.long p1), .second, iv 128] [(.int (p1.toInt32 + (128 : Int32))), (.ref xC)])) rfl rfl (hb hby d5_29) t k) ?_
      show Goes p e below QQ (T19.setTop (mkF m 30 #[.val (.long p1), .second, iv 128] [(.ref y)]))
      have Ey := Ey.ext O_0.2
      exact Goes.rA X19 hx hret rfl rfl hlk (hb hby d5_30) hQQ (by rw [e19]; exact ⟨y, rfl, N0, K0, Ey⟩) (by decide) (by decide)
theorem d4_0 : decode prog_129_method_4_code 0 = .ok (.aload_n 1, 1) := by decide +kernel
theorem d4_1 : decode prog_129_method_4_code 1 = .ok (.instanceof 8, 3) := by decide +kernel
theorem d4_4 : decode prog_129_method_4_code 4 = .ok (.ifCond .eq 24, 3) := by decide +kernel
theorem d4_7 : decode prog_129_method_4_code 7 = .ok (.aload_n 1, 1) := by decide +kernel
theorem d4_8 : decode prog_129_method_4_code 8 = .ok (.checkcast 8, 3) := by decide +kernel
theorem d4_11 : decode prog_129_method_4_code 11 = .ok (.astore_n 2, 1) := by decide +kernel
theorem d4_12 : decode prog_129_method_4_code 12 = .ok (.aload_n 2, 1) := by decide +kernel
theorem d4_13 : decode prog_129_method_4_code 13 = .ok (.getfield 7, 3) := by decide +kernel
theorem d4_16 : decode prog_129_method_4_code 16 = .ok (.aload_n 0, 1) := by decide +kernel
theorem d4_17 : decode prog_129_method_4_code 17 = .ok (.getfield 7, 3) := by decide +kernel
theorem d4_20 : decode prog_129_method_4_code 20 = .ok (.lcmp, 1) := by decide +kernel
theorem d4_21 : decode prog_129_method_4_code 21 = .ok (.ifCond .ne 7, 3) := by decide +kernel
theorem d4_24 : decode prog_129_method_4_code 24 = .ok (.iconst 1, 1) := by decide +kernel
theorem d4_25 : decode prog_129_method_4_code 25 = .ok (.goto 4, 3) := by decide +kernel
theorem d4_28 : decode prog_129_method_4_code 28 = .ok (.iconst 0, 1) := by decide +kernel
theorem d4_29 : decode prog_129_method_4_code 29 = .ok (.ireturn, 1) := by decide +kernel
theorem pn_4 : plainFor (⟨"com/example/bindery/bindery/IntegerValue", "equals", "(Ljava/lang/Object;)Z"⟩ : MethodName) = true := plainFor_of_name (show plainName "com/example/bindery/bindery/IntegerValue" = true by first | (simp [plainName, overriddenIn]; done) | decide +kernel)
theorem ef_rm3a (m : MethodId) (x0 : Addr) : entryFrame m #[(.ref x0), .null] 3 = mkF m 0 #[rv x0, .val .null, .unset] [] := by first | (simp [entryFrame, mkF, argsToLocals, Value.category]; done) | rfl
set_option maxRecDepth 65536 in
set_option maxHeartbeats 40000000 in
theorem rm3a (l : Launch) (Z : State) (a0 : Array Value) (hw : ∀ d ∈ tables_1, d.before a0 Z = true) (ws : List Jvm.Cond) (a1 : Addr) (h0 : Heap) (n0 : Nat) (Z0 : n0 ≤ h0.size)  :
    MetFree l (⟨"com/example/bindery/bindery/IntegerValue", "equals", "(Ljava/lang/Object;)Z"⟩ : MethodName) (head1 (Jvm.Cond.code (⟨"com/example/bindery/bindery/IntegerValue", "equals", "(Ljava/lang/Object;)Z"⟩ : MethodName) prog_129_method_4_code 3 (some .boolean) :: ws) ({ frames := 0, cells := 0, slots := 0, locals := 0 } : Room)) (fun a U => a = #[(.ref a1), .null] ∧ Z.Warmed39 U.vm ∧ U.heap = h0) (fun _ _ _ _ _ => True) (fun _ U o U' => ∃ v L, o = .returned v ∧ QP (.int (0 : Int32)) h0 n0 v U'.heap L ∧ FrameEnd U o U' L ({ frames := 0, cells := 0, slots := 0, locals := 0 } : Room).cells ({ frames := 0, cells := 0, slots := 0, locals := 0 } : Room).slots) := by
  refine own_enter pn_4 ?_
  intro p e s m below meth c s₁ QQ hQQ hx hby hml hown hnm hret hlk hZ X0 e0
  have hown : s.vm.findClass "com/example/bindery/bindery/IntegerValue" = some m.cls := hown
  have hml : c.maxLocals = 3 := hml
  have hret : meth.sig.returnType = some .boolean := hret
  have N0 := Fr.nil n0
  have K0 := Keep.refl h0 []
  refine Goes.cast (ef_rm3a m a1) ?_
  show Goes p e below QQ (s₁.setTop (mkF m 0 #[rv a1, .val .null, .unset] []))
  refine Goes.on (fun t k => XS.aloadN X0.here hx rfl (hb hby d4_0) rfl rfl k) ?_
  show Goes p e below QQ (s₁.setTop (mkF m 1 #[rv a1, .val .null, .unset] [.null]))
  refine Goes.on (fun t k => X0.instanceofNull hx (g := (mkF m 1 #[rv a1, .val .null, .unset] [.null])) rfl rfl (hb hby d4_1) t k) ?_
  show Goes p e below QQ (s₁.setTop (mkF m 4 #[rv a1, .val .null, .unset] [(.int 0)]))
  refine Goes.on (fun t k => XS.ifYes X0.here hx rfl (pc0 := 4) (pc' := 28) rfl (hb hby d4_4) rfl ((if0 _ _).trans (teq (by decide)).1) (by decide) (by decide) k) ?_
  show Goes p e below QQ (s₁.setTop (mkF m 28 #[rv a1, .val .null, .unset] []))
  refine Goes.on (fun t k => XS.iconst X0.here hx rfl (hb hby d4_28) k) ?_
  show Goes p e below QQ (s₁.setTop (mkF m 29 #[rv a1, .val .null, .unset] [(.int 0)]))
  exact Goes.rN X0 hx (t := .boolean) hret (by simp) hlk (hb hby d4_29) hQQ ⟨rfl, N0, e0⟩ (by decide) (by decide)
theorem ef_rm3b (m : MethodId) (x0 : Addr) (x1 : Addr) : entryFrame m #[(.ref x0), (.ref x1)] 3 = mkF m 0 #[rv x0, rv x1, .unset] [] := by first | (simp [entryFrame, mkF, argsToLocals, Value.category]; done) | rfl
def eqL (xx : Int64) (yy : Int64) : Int32 := (if yy = xx then (1 : Int32) else (0 : Int32))
set_option maxRecDepth 65536 in
set_option maxHeartbeats 40000000 in
theorem rm3b (l : Launch) (Z : State) (a0 : Array Value) (hw : ∀ d ∈ tables_1, d.before a0 Z = true) (ws : List Jvm.Cond) (a1 : Addr) (a2 : Addr) (xx yy : Int64) (h0 : Heap) (n0 : Nat) (Z0 : n0 ≤ h0.size) (E_a2 : Exa Z h0 a2 "com/example/bindery/bindery/IntegerValue") (F_value_a1 : Fld Z h0 a1 "com/example/bindery/bindery/IntegerValue" "value" "J" (.long xx)) (F_value_a2 : Fld Z h0 a2 "com/example/bindery/bindery/IntegerValue" "value" "J" (.long yy)) :
    MetFree l (⟨"com/example/bindery/bindery/IntegerValue", "equals", "(Ljava/lang/Object;)Z"⟩ : MethodName) (head1 (Jvm.Cond.code (⟨"com/example/bindery/bindery/IntegerValue", "equals", "(Ljava/lang/Object;)Z"⟩ : MethodName) prog_129_method_4_code 3 (some .boolean) :: ws) ({ frames := 0, cells := 0, slots := 0, locals := 0 } : Room)) (fun a U => a = #[(.ref a1), (.ref a2)] ∧ Z.Warmed39 U.vm ∧ U.heap = h0) (fun _ _ _ _ _ => True) (fun _ U o U' => ∃ v L, o = .returned v ∧ QP (.int (eqL xx yy)) h0 n0 v U'.heap L ∧ FrameEnd U o U' L ({ frames := 0, cells := 0, slots := 0, locals := 0 } : Room).cells ({ frames := 0, cells := 0, slots := 0, locals := 0 } : Room).slots) := by
  refine own_enter pn_4 ?_
  intro p e s m below meth c s₁ QQ hQQ hx hby hml hown hnm hret hlk hZ X0 e0
  have hown : s.vm.findClass "com/example/bindery/bindery/IntegerValue" = some m.cls := hown
  have hml : c.maxLocals = 3 := hml
  have hret : meth.sig.returnType = some .boolean := hret
  have N0 := Fr.nil n0
  have K0 := Keep.refl h0 []
  refine Goes.cast (ef_rm3b m a1 a2) ?_
  show Goes p e below QQ (s₁.setTop (mkF m 0 #[rv a1, rv a2, .unset] []))
  refine Goes.on (fun t k => XS.aloadN X0.here hx rfl (hb hby d4_0) rfl rfl k) ?_
  show Goes p e below QQ (s₁.setTop (mkF m 1 #[rv a1, rv a2, .unset] [(.ref a2)]))
  obtain ⟨T1, X1, e1, st1⟩ := instY X0 hx hZ hown (hw _ (List.mem_of_getElem? (i := 21) rfl)) e0 (Ins.self E_a2) (g := (mkF m 1 #[rv a1, rv a2, .unset] [(.ref a2)])) rfl rfl (hb hby d4_1)
  refine Goes.on (fun t k => st1 t k) ?_
  show Goes p e below QQ (T1.setTop (mkF m 4 #[rv a1, rv a2, .unset] [(.int 1)]))
  refine Goes.on (fun t k => XS.ifNo X1.here hx rfl (hb hby d4_4) rfl ((if0 _ _).trans (feq (by decide)).1) k) ?_
  show Goes p e below QQ (T1.setTop (mkF m 7 #[rv a1, rv a2, .unset] []))
  refine Goes.on (fun t k => XS.aloadN X1.here hx rfl (hb hby d4_7) rfl rfl k) ?_
  show Goes p e below QQ (T1.setTop (mkF m 8 #[rv a1, rv a2, .unset] [(.ref a2)]))
  obtain ⟨T2, X2, e2, st2⟩ := castY X1 hx hZ hown (hw _ (List.mem_of_getElem? (i := 21) rfl)) e1 (Ins.self E_a2) (g := (mkF m 8 #[rv a1, rv a2, .unset] [(.ref a2)])) rfl rfl (hb hby d4_8)
  refine Goes.on (fun t k => st2 t k) ?_
  show Goes p e below QQ (T2.setTop (mkF m 11 #[rv a1, rv a2, .unset] [(.ref a2)]))
  refine Goes.on (fun t k => XS.astoreN X2.here hx rfl (hb hby d4_11) rfl rfl (l' := #[rv a1, rv a2, rv a2]) rfl k) ?_
  show Goes p e below QQ (T2.setTop (mkF m 12 #[rv a1, rv a2, rv a2] []))
  refine Goes.on (fun t k => XS.aloadN X2.here hx rfl (hb hby d4_12) rfl rfl k) ?_
  show Goes p e below QQ (T2.setTop (mkF m 13 #[rv a1, rv a2, rv a2] [(.ref a2)]))
  obtain ⟨T3, X3, e3, st3⟩ := getF X2 hx hZ hown (host := "") (Or.inl (hw _ (List.mem_of_getElem? (i := 14) rfl))) Via.refl e2 F_value_a2 (g := (mkF m 13 #[rv a1, rv a2, rv a2] [(.ref a2)])) rfl rfl (hb hby d4_13)
  refine Goes.on (fun t k => st3 t k) ?_
  show Goes p e below QQ (T3.setTop (mkF m 16 #[rv a1, rv a2, rv a2] [(.long yy)]))
  refine Goes.on (fun t k => XS.aloadN X3.here hx rfl (hb hby d4_16) rfl rfl k) ?_
  show Goes p e below QQ (T3.setTop (mkF m 17 #[rv a1, rv a2, rv a2] [(.ref a1), (.long yy)]))
  obtain ⟨T4, X4, e4, st4⟩ := getF X3 hx hZ hown (host := "") (Or.inl (hw _ (List.mem_of_getElem? (i := 14) rfl))) Via.refl e3 F_value_a1 (g := (mkF m 17 #[rv a1, rv a2, rv a2] [(.ref a1), (.long yy)])) rfl rfl (hb hby d4_17)
  refine Goes.on (fun t k => st4 t k) ?_
  show Goes p e below QQ (T4.setTop (mkF m 20 #[rv a1, rv a2, rv a2] [(.long xx), (.long yy)]))
  refine Goes.on (fun t k => XS.lcmp X4.here hx rfl (hb hby d4_20) rfl k) ?_
  show Goes p e below QQ (T4.setTop (mkF m 21 #[rv a1, rv a2, rv a2] [(.int (lcmpW yy xx))]))
  by_cases hb5 : yy = xx
  · refine Goes.on (fun t k => XS.ifNo X4.here hx rfl (hb hby d4_21) rfl ((if0 _ _).trans (teq ((lw_eq yy xx).mpr hb5)).2) k) ?_
    show Goes p e below QQ (T4.setTop (mkF m 24 #[rv a1, rv a2, rv a2] []))
    refine Goes.on (fun t k => XS.iconst X4.here hx rfl (hb hby d4_24) k) ?_
    show Goes p e below QQ (T4.setTop (mkF m 25 #[rv a1, rv a2, rv a2] [(.int 1)]))
    refine Goes.on (fun t k => XS.goto X4.here hx rfl (pc0 := 25) (pc' := 29) rfl (hb hby d4_25) (by decide) (by decide) k) ?_
    show Goes p e below QQ (T4.setTop (mkF m 29 #[rv a1, rv a2, rv a2] [(.int 1)]))
    have hv : nar .boolean (1 : Int32) = (1 : Int32) := rfl
    exact Goes.rN X4 hx (t := .boolean) hret (by simp) hlk (hb hby d4_29) hQQ ⟨congrArg (fun z => some (Value.int z)) (hv.trans (((if_pos hb5).trans rfl) : (eqL xx yy) = (1 : Int32)).symm), N0, e4⟩ (by decide) (by decide)
  · refine Goes.on (fun t k => XS.ifYes X4.here hx rfl (pc0 := 21) (pc' := 28) rfl (hb hby d4_21) rfl ((if0 _ _).trans (feq (mt (lw_eq yy xx).mp hb5)).2) (by decide) (by decide) k) ?_
    show Goes p e below QQ (T4.setTop (mkF m 28 #[rv a1, rv a2, rv a2] []))
    refine Goes.on (fun t k => XS.iconst X4.here hx rfl (hb hby d4_28) k) ?_
    show Goes p e below QQ (T4.setTop (mkF m 29 #[rv a1, rv a2, rv a2] [(.int 0)]))
    have hv : nar .boolean (0 : Int32) = (0 : Int32) := rfl
    exact Goes.rN X4 hx (t := .boolean) hret (by simp) hlk (hb hby d4_29) hQQ ⟨congrArg (fun z => some (Value.int z)) (hv.trans (((if_neg hb5).trans rfl) : (eqL xx yy) = (0 : Int32)).symm), N0, e4⟩ (by decide) (by decide)
theorem ef_rm3c (m : MethodId) (x0 : Addr) (x1 : Addr) : entryFrame m #[(.ref x0), (.ref x1)] 3 = mkF m 0 #[rv x0, rv x1, .unset] [] := by first | (simp [entryFrame, mkF, argsToLocals, Value.category]; done) | rfl
set_option maxRecDepth 65536 in
set_option maxHeartbeats 40000000 in
theorem rm3c (l : Launch) (Z : State) (a0 : Array Value) (hw : ∀ d ∈ tables_1, d.before a0 Z = true) (ws : List Jvm.Cond) (a1 a2 : Addr) (h0 : Heap) (n0 : Nat) (Z0 : n0 ≤ h0.size) (E_a2 : Exa Z h0 a2 "com/example/bindery/bindery/BooleanValue") :
    MetFree l (⟨"com/example/bindery/bindery/IntegerValue", "equals", "(Ljava/lang/Object;)Z"⟩ : MethodName) (head1 (Jvm.Cond.code (⟨"com/example/bindery/bindery/IntegerValue", "equals", "(Ljava/lang/Object;)Z"⟩ : MethodName) prog_129_method_4_code 3 (some .boolean) :: ws) ({ frames := 0, cells := 0, slots := 0, locals := 0 } : Room)) (fun a U => a = #[(.ref a1), (.ref a2)] ∧ Z.Warmed39 U.vm ∧ U.heap = h0) (fun _ _ _ _ _ => True) (fun _ U o U' => ∃ v L, o = .returned v ∧ QP (.int (0 : Int32)) h0 n0 v U'.heap L ∧ FrameEnd U o U' L ({ frames := 0, cells := 0, slots := 0, locals := 0 } : Room).cells ({ frames := 0, cells := 0, slots := 0, locals := 0 } : Room).slots) := by
  refine own_enter pn_4 ?_
  intro p e s m below meth c s₁ QQ hQQ hx hby hml hown hnm hret hlk hZ X0 e0
  have hown : s.vm.findClass "com/example/bindery/bindery/IntegerValue" = some m.cls := hown
  have hml : c.maxLocals = 3 := hml
  have hret : meth.sig.returnType = some .boolean := hret
  have N0 := Fr.nil n0
  have K0 := Keep.refl h0 []
  refine Goes.cast (ef_rm3c m a1 a2) ?_
  show Goes p e below QQ (s₁.setTop (mkF m 0 #[rv a1, rv a2, .unset] []))
  refine Goes.on (fun t k => XS.aloadN X0.here hx rfl (hb hby d4_0) rfl rfl k) ?_
  show Goes p e below QQ (s₁.setTop (mkF m 1 #[rv a1, rv a2, .unset] [(.ref a2)]))
  obtain ⟨T1, X1, e1, st1⟩ := instNo X0 hx hZ hown (hw _ (List.mem_of_getElem? (i := 21) rfl)) e0 E_a2 (own_nsNo (hw _ (List.mem_of_getElem? (i := 43) rfl)) (hw _ (List.mem_of_getElem? (i := 1) rfl)) (NS.step (hw _ (List.mem_of_getElem? (i := 43) rfl)) (NS.step (hw _ (List.mem_of_getElem? (i := 44) rfl)) (own_nsRoot (hw _ (List.mem_of_getElem? (i := 33) rfl)) (hw _ (List.mem_of_getElem? (i := 1) rfl)) (by decide)) (by decide)) (by decide)) (by decide)) (g := (mkF m 1 #[rv a1, rv a2, .unset] [(.ref a2)])) rfl rfl (hb hby d4_1)
  refine Goes.on (fun t k => st1 t k) ?_
  show Goes p e below QQ (T1.setTop (mkF m 4 #[rv a1, rv a2, .unset] [(.int 0)]))
  refine Goes.on (fun t k => XS.ifYes X1.here hx rfl (pc0 := 4) (pc' := 28) rfl (hb hby d4_4) rfl ((if0 _ _).trans (teq (by decide)).1) (by decide) (by decide) k) ?_
  show Goes p e below QQ (T1.setTop (mkF m 28 #[rv a1, rv a2, .unset] []))
  refine Goes.on (fun t k => XS.iconst X1.here hx rfl (hb hby d4_28) k) ?_
  show Goes p e below QQ (T1.setTop (mkF m 29 #[rv a1, rv a2, .unset] [(.int 0)]))
  exact Goes.rN X1 hx (t := .boolean) hret (by simp) hlk (hb hby d4_29) hQQ ⟨rfl, N0, e1⟩ (by decide) (by decide)
theorem ef_rm3d (m : MethodId) (x0 : Addr) (x1 : Addr) : entryFrame m #[(.ref x0), (.ref x1)] 3 = mkF m 0 #[rv x0, rv x1, .unset] [] := by first | (simp [entryFrame, mkF, argsToLocals, Value.category]; done) | rfl
set_option maxRecDepth 65536 in
set_option maxHeartbeats 40000000 in
theorem rm3d (l : Launch) (Z : State) (a0 : Array Value) (hw : ∀ d ∈ tables_1, d.before a0 Z = true) (ws : List Jvm.Cond) (a1 a2 : Addr) (h0 : Heap) (n0 : Nat) (Z0 : n0 ≤ h0.size) (E_a2 : Exa Z h0 a2 "java/lang/Long") :
    MetFree l (⟨"com/example/bindery/bindery/IntegerValue", "equals", "(Ljava/lang/Object;)Z"⟩ : MethodName) (head1 (Jvm.Cond.code (⟨"com/example/bindery/bindery/IntegerValue", "equals", "(Ljava/lang/Object;)Z"⟩ : MethodName) prog_129_method_4_code 3 (some .boolean) :: ws) ({ frames := 0, cells := 0, slots := 0, locals := 0 } : Room)) (fun a U => a = #[(.ref a1), (.ref a2)] ∧ Z.Warmed39 U.vm ∧ U.heap = h0) (fun _ _ _ _ _ => True) (fun _ U o U' => ∃ v L, o = .returned v ∧ QP (.int (0 : Int32)) h0 n0 v U'.heap L ∧ FrameEnd U o U' L ({ frames := 0, cells := 0, slots := 0, locals := 0 } : Room).cells ({ frames := 0, cells := 0, slots := 0, locals := 0 } : Room).slots) := by
  refine own_enter pn_4 ?_
  intro p e s m below meth c s₁ QQ hQQ hx hby hml hown hnm hret hlk hZ X0 e0
  have hown : s.vm.findClass "com/example/bindery/bindery/IntegerValue" = some m.cls := hown
  have hml : c.maxLocals = 3 := hml
  have hret : meth.sig.returnType = some .boolean := hret
  have N0 := Fr.nil n0
  have K0 := Keep.refl h0 []
  refine Goes.cast (ef_rm3d m a1 a2) ?_
  show Goes p e below QQ (s₁.setTop (mkF m 0 #[rv a1, rv a2, .unset] []))
  refine Goes.on (fun t k => XS.aloadN X0.here hx rfl (hb hby d4_0) rfl rfl k) ?_
  show Goes p e below QQ (s₁.setTop (mkF m 1 #[rv a1, rv a2, .unset] [(.ref a2)]))
  obtain ⟨T1, X1, e1, st1⟩ := instNo X0 hx hZ hown (hw _ (List.mem_of_getElem? (i := 21) rfl)) e0 E_a2 (own_nsNo (hw _ (List.mem_of_getElem? (i := 31) rfl)) (hw _ (List.mem_of_getElem? (i := 1) rfl)) (NS.step (hw _ (List.mem_of_getElem? (i := 31) rfl)) (NS.step (hw _ (List.mem_of_getElem? (i := 32) rfl)) (own_nsRoot (hw _ (List.mem_of_getElem? (i := 33) rfl)) (hw _ (List.mem_of_getElem? (i := 1) rfl)) (by decide)) (by decide)) (by decide)) (by decide)) (g := (mkF m 1 #[rv a1, rv a2, .unset] [(.ref a2)])) rfl rfl (hb hby d4_1)
  refine Goes.on (fun t k => st1 t k) ?_
  show Goes p e below QQ (T1.setTop (mkF m 4 #[rv a1, rv a2, .unset] [(.int 0)]))
  refine Goes.on (fun t k => XS.ifYes X1.here hx rfl (pc0 := 4) (pc' := 28) rfl (hb hby d4_4) rfl ((if0 _ _).trans (teq (by decide)).1) (by decide) (by decide) k) ?_
  show Goes p e below QQ (T1.setTop (mkF m 28 #[rv a1, rv a2, .unset] []))
  refine Goes.on (fun t k => XS.iconst X1.here hx rfl (hb hby d4_28) k) ?_
  show Goes p e below QQ (T1.setTop (mkF m 29 #[rv a1, rv a2, .unset] [(.int 0)]))
  exact Goes.rN X1 hx (t := .boolean) hret (by simp) hlk (hb hby d4_29) hQQ ⟨rfl, N0, e1⟩ (by decide) (by decide)
theorem pn_0 : plainFor x = true := plainFor_of_name (show plainName "com/example/bindery/bindery/IntegerValueEqualsPinLaw" = true by first | (simp [plainName, overriddenIn]; done) | decide +kernel)
theorem ef_rm0 (m : MethodId) (x0 : Int64) (x1 : Int64) (x2 : Int32) : entryFrame m #[(.long x0), (.long x1), (.int x2)] maxLocals = mkF m 0 #[.val (.long x0), .second, .val (.long x1), .second, iv x2, .unset, .unset, .unset, .unset, .unset, .unset] [] := by first | (simp [entryFrame, mkF, argsToLocals, Value.category, maxLocals]; done) | rfl
theorem pd_2 : parseMethodDescriptor "(Ljava/lang/Object;)Z" = some ⟨[(.object "java/lang/Object")], some .boolean⟩ := by decide +kernel
theorem pd_3 : parseMethodDescriptor "(Z)V" = some ⟨[.boolean], none⟩ := by decide +kernel
theorem pd_4 : parseMethodDescriptor "(J)Ljava/lang/Long;" = some ⟨[.long], some (.object "java/lang/Long")⟩ := by decide +kernel
def lawF (p1 p2 : Int64) (p3 : Int32) : Int32 := (if (((p3.toUInt32 >>> ((1 : Int32) &&& 31).toUInt32).toInt32) &&& (3 : Int32)) = (0 : Int32) then (if (eqL p1 (if (p3 &&& (1 : Int32)) = (0 : Int32) then (p1 ^^^ p2) else p1)) = (if p1 = (if (p3 &&& (1 : Int32)) = (0 : Int32) then (p1 ^^^ p2) else p1) then (1 : Int32) else (0 : Int32)) then (1 : Int32) else (0 : Int32)) else (if (((p3.toUInt32 >>> ((1 : Int32) &&& 31).toUInt32).toInt32) &&& (3 : Int32)) = (1 : Int32) then (1 : Int32) else (if (((p3.toUInt32 >>> ((1 : Int32) &&& 31).toUInt32).toInt32) &&& (3 : Int32)) = (2 : Int32) then (1 : Int32) else (1 : Int32))))
theorem lawT (p1 p2 : Int64) (p3 : Int32) : lawF p1 p2 p3 = 1 := by
  unfold lawF eqL
  generalize (if (p3 &&& (1 : Int32)) = (0 : Int32) then (p1 ^^^ p2) else p1) = y
  by_cases hc : p1 = y
  · subst hc; simp
  · have hd : ¬ y = p1 := fun z => hc z.symm
    simp [hc, hd]
theorem own_els {args : Array Value} {s : State} {tt : Term} {a : Addr} {cl : Cell} {ty : FieldType} {R : Jvm.Cond} (ht : ∀ idx, tt.eval args s none idx s = some (.ref a)) (A : Arr s s.heap a cl ty) (hsz : cl.slots.size = 256) (h : (Jvm.Cond.all tt (Jvm.Cond.and (Jvm.Cond.exactly (Term.elem tt (Term.index 0)) "java/lang/Long") R)).value args s none s [] = some true) : Els s cl := by
  intro j h1 h2
  have hA : s.arrayAt? a = some cl := Arr.fin (Vm.Alike.refl _) A
  have hb := inb_of (j := j) (z := (256 : Int32)) (hsz.trans rfl) ⟨h1, h2⟩
  have hlt : j.toNatClampNeg < cl.slots.size := Nat.lt_of_not_le fun q => hb (Or.inr q)
  have q := (and_e (Cond.all_elim (ht []) hA h j.toNatClampNeg hlt)).1
  obtain ⟨y, ey⟩ := exa_v q
  have hi : (Term.index 0).eval args s none [j.toNatClampNeg] s = some (.int j) := idx_at h1
  obtain ⟨-, hat⟩ := elem_in ey (ht _) hi A.1
  exact ⟨y, hat, exa_at ey q⟩
set_option maxRecDepth 65536 in
set_option maxHeartbeats 40000000 in
theorem rm0 (l : Launch) (Z : State) (a0 : Array Value) (hw : ∀ d ∈ tables_1, d.before a0 Z = true) (ws : List Jvm.Cond) (p1 p2 : Int64) (p3 : Int32) (xC : Addr) (cc : Cell) (h0 : Heap) (n0 : Nat) (Z0 : n0 ≤ h0.size) (S_cache : Sta Z Z.heap "java/lang/Long$LongCache" "cache" "[Ljava/lang/Long;" (.ref xC)) (O_0 : Old Z n0 h0) (A_c : Arr Z Z.heap xC cc (.object "java/lang/Long")) (sz_c : cc.slots.size = 256) (El : Els Z cc) :
    MetFree l x (head1 (Jvm.Cond.code x code maxLocals ret :: ws) room_1) (fun a U => a = #[(.long p1), (.long p2), (.int p3)] ∧ Z.Warmed39 U.vm ∧ U.heap = h0) (fun _ _ _ _ _ => True) (fun _ U o U' => ∃ v L, o = .returned v ∧ QL n0 v U'.heap L ∧ FrameEnd U o U' L 16 128) := by
  refine own_enter pn_0 ?_
  intro p e s m below meth c s₁ QQ hQQ hx hby hml hown hnm hret hlk hZ X0 e0
  have hown : s.vm.findClass "com/example/bindery/bindery/IntegerValueEqualsPinLaw" = some m.cls := hown
  have hml : c.maxLocals = 11 := hml
  have hret : meth.sig.returnType = some .boolean := hret
  have N0 := Fr.nil n0
  have K0 := Keep.refl h0 []
  refine Goes.cast (ef_rm0 m p1 p2 p3) ?_
  show Goes p e below QQ (s₁.setTop (mkF m 0 #[.val (.long p1), .second, .val (.long p2), .second, iv p3, .unset, .unset, .unset, .unset, .unset, .unset] []))
  refine Goes.on (fun t k => XS.iload X0.here hx rfl (hb hby at_0) rfl k) ?_
  show Goes p e below QQ (s₁.setTop (mkF m 2 #[.val (.long p1), .second, .val (.long p2), .second, iv p3, .unset, .unset, .unset, .unset, .unset, .unset] [(.int p3)]))
  refine Goes.on (fun t k => XS.iconst X0.here hx rfl (hb hby at_2) k) ?_
  show Goes p e below QQ (s₁.setTop (mkF m 3 #[.val (.long p1), .second, .val (.long p2), .second, iv p3, .unset, .unset, .unset, .unset, .unset, .unset] [(.int 1), (.int p3)]))
  refine Goes.on (fun t k => XS.iand X0.here hx rfl (hb hby at_3) rfl k) ?_
  show Goes p e below QQ (s₁.setTop (mkF m 4 #[.val (.long p1), .second, .val (.long p2), .second, iv p3, .unset, .unset, .unset, .unset, .unset, .unset] [(.int (p3 &&& (1 : Int32)))]))
  have J1 : ∀ (TJ1 : State) (lJ1 : List Loc), Stand p l e room_1 s m #[(.long p1), (.long p2), (.int p3)] below meth c TJ1 lJ1 0 0 → TJ1.heap = h0 → Fr n0 lJ1 → Goes p e below QQ (TJ1.setTop (mkF m 14 #[.val (.long p1), .second, .val (.long p2), .second, iv p3, .unset, .unset, .unset, .unset, .unset, .unset] [(.long (if (p3 &&& (1 : Int32)) = (0 : Int32) then (p1 ^^^ p2) else p1))])) := by
    intro TJ1 lJ1 XJ1 eJ1 NJ1
    refine Goes.on (fun t k => XS.lstore XJ1.here hx rfl (hb hby at_14) rfl (l' := #[.val (.long p1), .second, .val (.long p2), .second, iv p3, .val (.long (if (p3 &&& (1 : Int32)) = (0 : Int32) then (p1 ^^^ p2) else p1)), .second, .unset, .unset, .unset, .unset]) rfl k) ?_
    show Goes p e below QQ (TJ1.setTop (mkF m 16 #[.val (.long p1), .second, .val (.long p2), .second, iv p3, .val (.long (if (p3 &&& (1 : Int32)) = (0 : Int32) then (p1 ^^^ p2) else p1)), .second, .unset, .unset, .unset, .unset] []))
    refine Goes.on (fun t k => XS.iload XJ1.here hx rfl (hb hby at_16) rfl k) ?_
    show Goes p e below QQ (TJ1.setTop (mkF m 18 #[.val (.long p1), .second, .val (.long p2), .second, iv p3, .val (.long (if (p3 &&& (1 : Int32)) = (0 : Int32) then (p1 ^^^ p2) else p1)), .second, .unset, .unset, .unset, .unset] [(.int p3)]))
    refine Goes.on (fun t k => XS.iconst XJ1.here hx rfl (hb hby at_18) k) ?_
    show Goes p e below QQ (TJ1.setTop (mkF m 19 #[.val (.long p1), .second, .val (.long p2), .second, iv p3, .val (.long (if (p3 &&& (1 : Int32)) = (0 : Int32) then (p1 ^^^ p2) else p1)), .second, .unset, .unset, .unset, .unset] [(.int 1), (.int p3)]))
    refine Goes.on (fun t k => XS.iushr XJ1.here hx rfl (hb hby at_19) rfl k) ?_
    show Goes p e below QQ (TJ1.setTop (mkF m 20 #[.val (.long p1), .second, .val (.long p2), .second, iv p3, .val (.long (if (p3 &&& (1 : Int32)) = (0 : Int32) then (p1 ^^^ p2) else p1)), .second, .unset, .unset, .unset, .unset] [(.int ((p3.toUInt32 >>> ((1 : Int32) &&& 31).toUInt32).toInt32))]))
    refine Goes.on (fun t k => XS.iconst XJ1.here hx rfl (hb hby at_20) k) ?_
    show Goes p e below QQ (TJ1.setTop (mkF m 21 #[.val (.long p1), .second, .val (.long p2), .second, iv p3, .val (.long (if (p3 &&& (1 : Int32)) = (0 : Int32) then (p1 ^^^ p2) else p1)), .second, .unset, .unset, .unset, .unset] [(.int 3), (.int ((p3.toUInt32 >>> ((1 : Int32) &&& 31).toUInt32).toInt32))]))
    refine Goes.on (fun t k => XS.iand XJ1.here hx rfl (hb hby at_21) rfl k) ?_
    show Goes p e below QQ (TJ1.setTop (mkF m 22 #[.val (.long p1), .second, .val (.long p2), .second, iv p3, .val (.long (if (p3 &&& (1 : Int32)) = (0 : Int32) then (p1 ^^^ p2) else p1)), .second, .unset, .unset, .unset, .unset] [(.int (((p3.toUInt32 >>> ((1 : Int32) &&& 31).toUInt32).toInt32) &&& (3 : Int32)))]))
    refine Goes.on (fun t k => XS.istore XJ1.here hx rfl (hb hby at_22) rfl (l' := #[.val (.long p1), .second, .val (.long p2), .second, iv p3, .val (.long (if (p3 &&& (1 : Int32)) = (0 : Int32) then (p1 ^^^ p2) else p1)), .second, iv (((p3.toUInt32 >>> ((1 : Int32) &&& 31).toUInt32).toInt32) &&& (3 : Int32)), .unset, .unset, .unset]) rfl k) ?_
    show Goes p e below QQ (TJ1.setTop (mkF m 24 #[.val (.long p1), .second, .val (.long p2), .second, iv p3, .val (.long (if (p3 &&& (1 : Int32)) = (0 : Int32) then (p1 ^^^ p2) else p1)), .second, iv (((p3.toUInt32 >>> ((1 : Int32) &&& 31).toUInt32).toInt32) &&& (3 : Int32)), .unset, .unset, .unset] []))
    obtain ⟨T2, h2, X2, e2, E2, A2, D2, -, st2⟩ := newO XJ1 hx hZ hown (hw _ (List.mem_of_getElem? (i := 0) rfl)) (hw _ (List.mem_of_getElem? (i := 1) rfl)) (hw _ (List.mem_of_getElem? (i := 2) rfl)) eJ1 (g := (mkF m 24 #[.val (.long p1), .second, .val (.long p2), .second, iv p3, .val (.long (if (p3 &&& (1 : Int32)) = (0 : Int32) then (p1 ^^^ p2) else p1)), .second, iv (((p3.toUInt32 >>> ((1 : Int32) &&& 31).toUInt32).toInt32) &&& (3 : Int32)), .unset, .unset, .unset] [])) rfl (hb hby at_24) (by decide) (by decide)
    obtain ⟨b2, g2⟩ : ∃ z, z = h0.size := ⟨_, rfl⟩
    rw [← g2] at A2 D2 st2
    have sz_b2 : h0.size ≤ b2 := Nat.le_trans K0.1 (Nat.le_of_eq g2.symm)
    have g_b2 : n0 ≤ b2 := Nat.le_trans Z0 sz_b2
    have O_3 := O_0.ext E2
    have K2 := K0.ext E2
    have F_4 : Fld Z h2 b2 "com/example/bindery/bindery/IntegerValue" "value" "J" (.long (0 : Int64)) := D2 (Or.inr (hw _ (List.mem_of_getElem? (i := 15) rfl))) (ty := .long) (by decide)
    refine Goes.on (fun t k => st2 t k) ?_
    show Goes p e below QQ (T2.setTop (mkF m 27 #[.val (.long p1), .second, .val (.long p2), .second, iv p3, .val (.long (if (p3 &&& (1 : Int32)) = (0 : Int32) then (p1 ^^^ p2) else p1)), .second, iv (((p3.toUInt32 >>> ((1 : Int32) &&& 31).toUInt32).toInt32) &&& (3 : Int32)), .unset, .unset, .unset] [(.ref b2)]))
    refine Goes.on (fun t k => XS.dup X2.here hx rfl (hb hby at_27) rfl rfl k) ?_
    show Goes p e below QQ (T2.setTop (mkF m 28 #[.val (.long p1), .second, .val (.long p2), .second, iv p3, .val (.long (if (p3 &&& (1 : Int32)) = (0 : Int32) then (p1 ^^^ p2) else p1)), .second, iv (((p3.toUInt32 >>> ((1 : Int32) &&& 31).toUInt32).toInt32) &&& (3 : Int32)), .unset, .unset, .unset] [(.ref b2), (.ref b2)]))
    refine Goes.on (fun t k => XS.lloadN X2.here hx rfl (hb hby at_28) rfl k) ?_
    show Goes p e below QQ (T2.setTop (mkF m 29 #[.val (.long p1), .second, .val (.long p2), .second, iv p3, .val (.long (if (p3 &&& (1 : Int32)) = (0 : Int32) then (p1 ^^^ p2) else p1)), .second, iv (((p3.toUInt32 >>> ((1 : Int32) &&& 31).toUInt32).toInt32) &&& (3 : Int32)), .unset, .unset, .unset] [(.long p1), (.ref b2), (.ref b2)]))
    obtain ⟨_, _, ⟨T5, L5, k5, n5⟩, -, X5, ⟨Lc5, hQ5, l5, y5, z5⟩, st5⟩ := X2.specialBack hx (y := (⟨"com/example/bindery/bindery/IntegerValue", "<init>", "(J)V"⟩ : MethodName)) rfl hown (mvT hZ (hw _ (List.mem_of_getElem? (i := 3) rfl))) (mvT hZ (hw _ (List.mem_of_getElem? (i := 4) rfl))) (mvT hZ (hw _ (List.mem_of_getElem? (i := 5) rfl))) (by decide) (backOf (W := 1) (rm1 l Z a0 hw [] b2 p1 h2 n0 (Nat.le_trans Z0 K2.1) A2 F_4 g_b2) hZ (hw _ (List.mem_of_getElem? (i := 5) rfl)) (hw _ (List.mem_of_getElem? (i := 2) rfl)) (by decide) (by decide)) (g := (mkF m 29 #[.val (.long p1), .second, .val (.long p2), .second, iv p3, .val (.long (if (p3 &&& (1 : Int32)) = (0 : Int32) then (p1 ^^^ p2) else p1)), .second, iv (((p3.toUInt32 >>> ((1 : Int32) &&& 31).toUInt32).toInt32) &&& (3 : Int32)), .unset, .unset, .unset] [(.long p1), (.ref b2), (.ref b2)])) rfl (by rw [hml]; rfl) (Steps.refl _) (a := b2) (argsL := [(.long p1)]) (rest := [(.ref b2)]) (lenOf pd_1 rfl) rfl (by show 2 * 0 + _ ≤ _; exact Nat.le_of_eq rfl) (hb hby at_29) (fun _ _ => ⟨rfl, e2, (by decide : 1 + 0 ≤ _), (by decide : 1 + 0 ≤ _)⟩)
    dsimp only [Pt.U, Pt.locs, Pt.cells, Pt.slots] at X5 l5 y5 z5 st5 hQ5
    subst l5 y5 z5
    obtain ⟨rfl, M5, Kc29, Fv29⟩ := hQ5
    have N5 := Fr.app NJ1 M5
    refine Goes.on (fun t k => st5.trans k) ?_
    have O_6 := O_3.keep Kc29 (allS g_b2 all0)
    have A2_7 := A2.keep Kc29
    have K9 := K2.trans Kc29 (allS (Or.inr sz_b2) all0)
    show Goes p e below QQ (T5.setTop (mkF m 32 #[.val (.long p1), .second, .val (.long p2), .second, iv p3, .val (.long (if (p3 &&& (1 : Int32)) = (0 : Int32) then (p1 ^^^ p2) else p1)), .second, iv (((p3.toUInt32 >>> ((1 : Int32) &&& 31).toUInt32).toInt32) &&& (3 : Int32)), .unset, .unset, .unset] [(.ref b2)]))
    refine Goes.on (fun t k => XS.astore X5.here hx rfl (hb hby at_32) rfl rfl (l' := #[.val (.long p1), .second, .val (.long p2), .second, iv p3, .val (.long (if (p3 &&& (1 : Int32)) = (0 : Int32) then (p1 ^^^ p2) else p1)), .second, iv (((p3.toUInt32 >>> ((1 : Int32) &&& 31).toUInt32).toInt32) &&& (3 : Int32)), rv b2, .unset, .unset]) rfl k) ?_
    show Goes p e below QQ (T5.setTop (mkF m 34 #[.val (.long p1), .second, .val (.long p2), .second, iv p3, .val (.long (if (p3 &&& (1 : Int32)) = (0 : Int32) then (p1 ^^^ p2) else p1)), .second, iv (((p3.toUInt32 >>> ((1 : Int32) &&& 31).toUInt32).toInt32) &&& (3 : Int32)), rv b2, .unset, .unset] []))
    refine Goes.on (fun t k => XS.iload X5.here hx rfl (hb hby at_34) rfl k) ?_
    show Goes p e below QQ (T5.setTop (mkF m 36 #[.val (.long p1), .second, .val (.long p2), .second, iv p3, .val (.long (if (p3 &&& (1 : Int32)) = (0 : Int32) then (p1 ^^^ p2) else p1)), .second, iv (((p3.toUInt32 >>> ((1 : Int32) &&& 31).toUInt32).toInt32) &&& (3 : Int32)), rv b2, .unset, .unset] [(.int (((p3.toUInt32 >>> ((1 : Int32) &&& 31).toUInt32).toInt32) &&& (3 : Int32)))]))
    by_cases hb10 : (((p3.toUInt32 >>> ((1 : Int32) &&& 31).toUInt32).toInt32) &&& (3 : Int32)) = (0 : Int32)
    · refine Goes.on (fun t k => XS.ifNo X5.here hx rfl (hb hby at_36) rfl ((if0 _ _).trans (teq hb10).2) k) ?_
      show Goes p e below QQ (T5.setTop (mkF m 39 #[.val (.long p1), .second, .val (.long p2), .second, iv p3, .val (.long (if (p3 &&& (1 : Int32)) = (0 : Int32) then (p1 ^^^ p2) else p1)), .second, iv (((p3.toUInt32 >>> ((1 : Int32) &&& 31).toUInt32).toInt32) &&& (3 : Int32)), rv b2, .unset, .unset] []))
      obtain ⟨T11, h11, X11, e11, E11, A11, D11, -, st11⟩ := newO X5 hx hZ hown (hw _ (List.mem_of_getElem? (i := 0) rfl)) (hw _ (List.mem_of_getElem? (i := 1) rfl)) (hw _ (List.mem_of_getElem? (i := 2) rfl)) rfl (g := (mkF m 39 #[.val (.long p1), .second, .val (.long p2), .second, iv p3, .val (.long (if (p3 &&& (1 : Int32)) = (0 : Int32) then (p1 ^^^ p2) else p1)), .second, iv (((p3.toUInt32 >>> ((1 : Int32) &&& 31).toUInt32).toInt32) &&& (3 : Int32)), rv b2, .unset, .unset] [])) rfl (hb hby at_39) (by decide) (by decide)
      obtain ⟨b11, g11⟩ : ∃ z, z = T5.heap.size := ⟨_, rfl⟩
      rw [← g11] at A11 D11 st11
      have sz_b11 : h0.size ≤ b11 := Nat.le_trans K9.1 (Nat.le_of_eq g11.symm)
      have g_b11 : n0 ≤ b11 := Nat.le_trans Z0 sz_b11
      have ne_b2_b11 : b2 ≠ b11 := Nat.ne_of_lt (Nat.lt_of_lt_of_le A2_7.lt (Nat.le_of_eq g11.symm))
      have O_12 := O_6.ext E11
      have A2_13 := A2_7.ext E11
      have Fv29_14 := Fv29.ext E11
      have K11 := K9.ext E11
      have F_15 : Fld Z h11 b11 "com/example/bindery/bindery/IntegerValue" "value" "J" (.long (0 : Int64)) := D11 (Or.inr (hw _ (List.mem_of_getElem? (i := 15) rfl))) (ty := .long) (by decide)
      refine Goes.on (fun t k => st11 t k) ?_
      show Goes p e below QQ (T11.setTop (mkF m 42 #[.val (.long p1), .second, .val (.long p2), .second, iv p3, .val (.long (if (p3 &&& (1 : Int32)) = (0 : Int32) then (p1 ^^^ p2) else p1)), .second, iv (((p3.toUInt32 >>> ((1 : Int32) &&& 31).toUInt32).toInt32) &&& (3 : Int32)), rv b2, .unset, .unset] [(.ref b11)]))
      refine Goes.on (fun t k => XS.dup X11.here hx rfl (hb hby at_42) rfl rfl k) ?_
      show Goes p e below QQ (T11.setTop (mkF m 43 #[.val (.long p1), .second, .val (.long p2), .second, iv p3, .val (.long (if (p3 &&& (1 : Int32)) = (0 : Int32) then (p1 ^^^ p2) else p1)), .second, iv (((p3.toUInt32 >>> ((1 : Int32) &&& 31).toUInt32).toInt32) &&& (3 : Int32)), rv b2, .unset, .unset] [(.ref b11), (.ref b11)]))
      refine Goes.on (fun t k => XS.lload X11.here hx rfl (hb hby at_43) rfl k) ?_
      show Goes p e below QQ (T11.setTop (mkF m 45 #[.val (.long p1), .second, .val (.long p2), .second, iv p3, .val (.long (if (p3 &&& (1 : Int32)) = (0 : Int32) then (p1 ^^^ p2) else p1)), .second, iv (((p3.toUInt32 >>> ((1 : Int32) &&& 31).toUInt32).toInt32) &&& (3 : Int32)), rv b2, .unset, .unset] [(.long (if (p3 &&& (1 : Int32)) = (0 : Int32) then (p1 ^^^ p2) else p1)), (.ref b11), (.ref b11)]))
      obtain ⟨_, _, ⟨T16, L16, k16, n16⟩, -, X16, ⟨Lc16, hQ16, l16, y16, z16⟩, st16⟩ := X11.specialBack hx (y := (⟨"com/example/bindery/bindery/IntegerValue", "<init>", "(J)V"⟩ : MethodName)) rfl hown (mvT hZ (hw _ (List.mem_of_getElem? (i := 3) rfl))) (mvT hZ (hw _ (List.mem_of_getElem? (i := 4) rfl))) (mvT hZ (hw _ (List.mem_of_getElem? (i := 5) rfl))) (by decide) (backOf (W := 1) (rm1 l Z a0 hw [] b11 (if (p3 &&& (1 : Int32)) = (0 : Int32) then (p1 ^^^ p2) else p1) h11 n0 (Nat.le_trans Z0 K11.1) A11 F_15 g_b11) hZ (hw _ (List.mem_of_getElem? (i := 5) rfl)) (hw _ (List.mem_of_getElem? (i := 2) rfl)) (by decide) (by decide)) (g := (mkF m 45 #[.val (.long p1), .second, .val (.long p2), .second, iv p3, .val (.long (if (p3 &&& (1 : Int32)) = (0 : Int32) then (p1 ^^^ p2) else p1)), .second, iv (((p3.toUInt32 >>> ((1 : Int32) &&& 31).toUInt32).toInt32) &&& (3 : Int32)), rv b2, .unset, .unset] [(.long (if (p3 &&& (1 : Int32)) = (0 : Int32) then (p1 ^^^ p2) else p1)), (.ref b11), (.ref b11)])) rfl (by rw [hml]; rfl) (Steps.refl _) (a := b11) (argsL := [(.long (if (p3 &&& (1 : Int32)) = (0 : Int32) then (p1 ^^^ p2) else p1))]) (rest := [(.ref b11)]) (lenOf pd_1 rfl) rfl (by show 2 * 0 + _ ≤ _; exact Nat.le_of_eq rfl) (hb hby at_45) (fun _ _ => ⟨rfl, e11, (by decide : 2 + 0 ≤ _), (by decide : 2 + 0 ≤ _)⟩)
      dsimp only [Pt.U, Pt.locs, Pt.cells, Pt.slots] at X16 l16 y16 z16 st16 hQ16
      subst l16 y16 z16
      obtain ⟨rfl, M16, Kc45, Fv45⟩ := hQ16
      have N16 := Fr.app N5 M16
      refine Goes.on (fun t k => st16.trans k) ?_
      have O_17 := O_12.keep Kc45 (allS g_b11 all0)
      have A2_18 := A2_13.keep Kc45
      have Fv29_19 := Fv29_14.keep Kc45 (ninS ne_b2_b11 nin0)
      have A11_20 := A11.keep Kc45
      have K22 := K11.trans Kc45 (allS (Or.inr sz_b11) all0)
      show Goes p e below QQ (T16.setTop (mkF m 48 #[.val (.long p1), .second, .val (.long p2), .second, iv p3, .val (.long (if (p3 &&& (1 : Int32)) = (0 : Int32) then (p1 ^^^ p2) else p1)), .second, iv (((p3.toUInt32 >>> ((1 : Int32) &&& 31).toUInt32).toInt32) &&& (3 : Int32)), rv b2, .unset, .unset] [(.ref b11)]))
      refine Goes.on (fun t k => XS.astore X16.here hx rfl (hb hby at_48) rfl rfl (l' := #[.val (.long p1), .second, .val (.long p2), .second, iv p3, .val (.long (if (p3 &&& (1 : Int32)) = (0 : Int32) then (p1 ^^^ p2) else p1)), .second, iv (((p3.toUInt32 >>> ((1 : Int32) &&& 31).toUInt32).toInt32) &&& (3 : Int32)), rv b2, rv b11, .unset]) rfl k) ?_
      show Goes p e below QQ (T16.setTop (mkF m 50 #[.val (.long p1), .second, .val (.long p2), .second, iv p3, .val (.long (if (p3 &&& (1 : Int32)) = (0 : Int32) then (p1 ^^^ p2) else p1)), .second, iv (((p3.toUInt32 >>> ((1 : Int32) &&& 31).toUInt32).toInt32) &&& (3 : Int32)), rv b2, rv b11, .unset] []))
      refine Goes.on (fun t k => XS.lloadN X16.here hx rfl (hb hby at_50) rfl k) ?_
      show Goes p e below QQ (T16.setTop (mkF m 51 #[.val (.long p1), .second, .val (.long p2), .second, iv p3, .val (.long (if (p3 &&& (1 : Int32)) = (0 : Int32) then (p1 ^^^ p2) else p1)), .second, iv (((p3.toUInt32 >>> ((1 : Int32) &&& 31).toUInt32).toInt32) &&& (3 : Int32)), rv b2, rv b11, .unset] [(.long p1)]))
      refine Goes.on (fun t k => XS.lload X16.here hx rfl (hb hby at_51) rfl k) ?_
      show Goes p e below QQ (T16.setTop (mkF m 53 #[.val (.long p1), .second, .val (.long p2), .second, iv p3, .val (.long (if (p3 &&& (1 : Int32)) = (0 : Int32) then (p1 ^^^ p2) else p1)), .second, iv (((p3.toUInt32 >>> ((1 : Int32) &&& 31).toUInt32).toInt32) &&& (3 : Int32)), rv b2, rv b11, .unset] [(.long (if (p3 &&& (1 : Int32)) = (0 : Int32) then (p1 ^^^ p2) else p1)), (.long p1)]))
      refine Goes.on (fun t k => XS.lcmp X16.here hx rfl (hb hby at_53) rfl k) ?_
      show Goes p e below QQ (T16.setTop (mkF m 54 #[.val (.long p1), .second, .val (.long p2), .second, iv p3, .val (.long (if (p3 &&& (1 : Int32)) = (0 : Int32) then (p1 ^^^ p2) else p1)), .second, iv (((p3.toUInt32 >>> ((1 : Int32) &&& 31).toUInt32).toInt32) &&& (3 : Int32)), rv b2, rv b11, .unset] [(.int (lcmpW p1 (if (p3 &&& (1 : Int32)) = (0 : Int32) then (p1 ^^^ p2) else p1)))]))
      have J23 : ∀ (TJ23 : State) (lJ23 : List Loc), Stand p l e room_1 s m #[(.long p1), (.long p2), (.int p3)] below meth c TJ23 lJ23 2 2 → TJ23.heap = T16.heap → Fr n0 lJ23 → Goes p e below QQ (TJ23.setTop (mkF m 62 #[.val (.long p1), .second, .val (.long p2), .second, iv p3, .val (.long (if (p3 &&& (1 : Int32)) = (0 : Int32) then (p1 ^^^ p2) else p1)), .second, iv (((p3.toUInt32 >>> ((1 : Int32) &&& 31).toUInt32).toInt32) &&& (3 : Int32)), rv b2, rv b11, .unset] [(.int (if p1 = (if (p3 &&& (1 : Int32)) = (0 : Int32) then (p1 ^^^ p2) else p1) then (1 : Int32) else (0 : Int32)))])) := by
        intro TJ23 lJ23 XJ23 eJ23 NJ23
        refine Goes.on (fun t k => XS.istore XJ23.here hx rfl (hb hby at_62) rfl (l' := #[.val (.long p1), .second, .val (.long p2), .second, iv p3, .val (.long (if (p3 &&& (1 : Int32)) = (0 : Int32) then (p1 ^^^ p2) else p1)), .second, iv (((p3.toUInt32 >>> ((1 : Int32) &&& 31).toUInt32).toInt32) &&& (3 : Int32)), rv b2, rv b11, iv (if p1 = (if (p3 &&& (1 : Int32)) = (0 : Int32) then (p1 ^^^ p2) else p1) then (1 : Int32) else (0 : Int32))]) rfl k) ?_
        show Goes p e below QQ (TJ23.setTop (mkF m 64 #[.val (.long p1), .second, .val (.long p2), .second, iv p3, .val (.long (if (p3 &&& (1 : Int32)) = (0 : Int32) then (p1 ^^^ p2) else p1)), .second, iv (((p3.toUInt32 >>> ((1 : Int32) &&& 31).toUInt32).toInt32) &&& (3 : Int32)), rv b2, rv b11, iv (if p1 = (if (p3 &&& (1 : Int32)) = (0 : Int32) then (p1 ^^^ p2) else p1) then (1 : Int32) else (0 : Int32))] []))
        refine Goes.on (fun t k => XS.goto XJ23.here hx rfl (pc0 := 64) (pc' := 126) rfl (hb hby at_64) (by decide) (by decide) k) ?_
        show Goes p e below QQ (TJ23.setTop (mkF m 126 #[.val (.long p1), .second, .val (.long p2), .second, iv p3, .val (.long (if (p3 &&& (1 : Int32)) = (0 : Int32) then (p1 ^^^ p2) else p1)), .second, iv (((p3.toUInt32 >>> ((1 : Int32) &&& 31).toUInt32).toInt32) &&& (3 : Int32)), rv b2, rv b11, iv (if p1 = (if (p3 &&& (1 : Int32)) = (0 : Int32) then (p1 ^^^ p2) else p1) then (1 : Int32) else (0 : Int32))] []))
        refine Goes.on (fun t k => XS.aload XJ23.here hx rfl (hb hby at_126) rfl rfl k) ?_
        show Goes p e below QQ (TJ23.setTop (mkF m 128 #[.val (.long p1), .second, .val (.long p2), .second, iv p3, .val (.long (if (p3 &&& (1 : Int32)) = (0 : Int32) then (p1 ^^^ p2) else p1)), .second, iv (((p3.toUInt32 >>> ((1 : Int32) &&& 31).toUInt32).toInt32) &&& (3 : Int32)), rv b2, rv b11, iv (if p1 = (if (p3 &&& (1 : Int32)) = (0 : Int32) then (p1 ^^^ p2) else p1) then (1 : Int32) else (0 : Int32))] [(.ref b2)]))
        refine Goes.on (fun t k => XS.aload XJ23.here hx rfl (hb hby at_128) rfl rfl k) ?_
        show Goes p e below QQ (TJ23.setTop (mkF m 130 #[.val (.long p1), .second, .val (.long p2), .second, iv p3, .val (.long (if (p3 &&& (1 : Int32)) = (0 : Int32) then (p1 ^^^ p2) else p1)), .second, iv (((p3.toUInt32 >>> ((1 : Int32) &&& 31).toUInt32).toInt32) &&& (3 : Int32)), rv b2, rv b11, iv (if p1 = (if (p3 &&& (1 : Int32)) = (0 : Int32) then (p1 ^^^ p2) else p1) then (1 : Int32) else (0 : Int32))] [(.ref b11), (.ref b2)]))
        obtain ⟨cq24, kq24, q24a, q24b, q24c⟩ := isOf hZ eJ23 A2_18
        obtain ⟨_, _, ⟨T24, L24, k24, n24⟩, -, X24, ⟨Lc24, hQ24, l24, y24, z24⟩, st24⟩ := XJ23.virtualBack hx (y := (⟨"com/example/bindery/bindery/IntegerValue", "equals", "(Ljava/lang/Object;)Z"⟩ : MethodName)) (z := (⟨"com/example/bindery/bindery/IntegerValue", "equals", "(Ljava/lang/Object;)Z"⟩ : MethodName)) hown (mvT hZ (hw _ (List.mem_of_getElem? (i := 16) rfl))) (mvT hZ (hw _ (List.mem_of_getElem? (i := 17) rfl))) (notFace_of_selects (args := #[]) (mvT hZ (hw _ (List.mem_of_getElem? (i := 19) rfl)))) (mvT hZ (hw _ (List.mem_of_getElem? (i := 19) rfl))) (mvT hZ (hw _ (List.mem_of_getElem? (i := 18) rfl))) (by decide) (backOf (W := 0) (rm3b l Z a0 hw [] b2 b11 p1 (if (p3 &&& (1 : Int32)) = (0 : Int32) then (p1 ^^^ p2) else p1) T16.heap n0 (Nat.le_trans Z0 K22.1) A11_20 Fv29_19 Fv45) hZ (hw _ (List.mem_of_getElem? (i := 20) rfl)) (hw _ (List.mem_of_getElem? (i := 2) rfl)) (by decide) (by decide)) q24a q24c (g := (mkF m 130 #[.val (.long p1), .second, .val (.long p2), .second, iv p3, .val (.long (if (p3 &&& (1 : Int32)) = (0 : Int32) then (p1 ^^^ p2) else p1)), .second, iv (((p3.toUInt32 >>> ((1 : Int32) &&& 31).toUInt32).toInt32) &&& (3 : Int32)), rv b2, rv b11, iv (if p1 = (if (p3 &&& (1 : Int32)) = (0 : Int32) then (p1 ^^^ p2) else p1) then (1 : Int32) else (0 : Int32))] [(.ref b11), (.ref b2)])) rfl (by rw [hml]; rfl) (Steps.refl _) (argsL := [(.ref b11)]) (rest := []) (lenOf pd_2 rfl) rfl (by show 2 * 0 + _ ≤ _; exact Nat.le_of_eq rfl) (hb hby at_130) (fun _ _ => ⟨rfl, eJ23, (by decide : 2 + 0 ≤ _), (by decide : 2 + 0 ≤ _)⟩)
        dsimp only [Pt.U, Pt.locs, Pt.cells, Pt.slots] at X24 l24 y24 z24 st24 hQ24
        subst l24 y24 z24
        obtain ⟨rfl, M24, e24⟩ := hQ24
        have N24 := Fr.app NJ23 M24
        refine Goes.on (fun t k => st24.trans k) ?_
        show Goes p e below QQ (T24.setTop (mkF m 133 #[.val (.long p1), .second, .val (.long p2), .second, iv p3, .val (.long (if (p3 &&& (1 : Int32)) = (0 : Int32) then (p1 ^^^ p2) else p1)), .second, iv (((p3.toUInt32 >>> ((1 : Int32) &&& 31).toUInt32).toInt32) &&& (3 : Int32)), rv b2, rv b11, iv (if p1 = (if (p3 &&& (1 : Int32)) = (0 : Int32) then (p1 ^^^ p2) else p1) then (1 : Int32) else (0 : Int32))] [(.int (eqL p1 (if (p3 &&& (1 : Int32)) = (0 : Int32) then (p1 ^^^ p2) else p1)))]))
        refine Goes.on (fun t k => XS.iload X24.here hx rfl (hb hby at_133) rfl k) ?_
        show Goes p e below QQ (T24.setTop (mkF m 135 #[.val (.long p1), .second, .val (.long p2), .second, iv p3, .val (.long (if (p3 &&& (1 : Int32)) = (0 : Int32) then (p1 ^^^ p2) else p1)), .second, iv (((p3.toUInt32 >>> ((1 : Int32) &&& 31).toUInt32).toInt32) &&& (3 : Int32)), rv b2, rv b11, iv (if p1 = (if (p3 &&& (1 : Int32)) = (0 : Int32) then (p1 ^^^ p2) else p1) then (1 : Int32) else (0 : Int32))] [(.int (if p1 = (if (p3 &&& (1 : Int32)) = (0 : Int32) then (p1 ^^^ p2) else p1) then (1 : Int32) else (0 : Int32))), (.int (eqL p1 (if (p3 &&& (1 : Int32)) = (0 : Int32) then (p1 ^^^ p2) else p1)))]))
        by_cases hb25 : (eqL p1 (if (p3 &&& (1 : Int32)) = (0 : Int32) then (p1 ^^^ p2) else p1)) = (if p1 = (if (p3 &&& (1 : Int32)) = (0 : Int32) then (p1 ^^^ p2) else p1) then (1 : Int32) else (0 : Int32))
        · refine Goes.on (fun t k => XS.icmpNo X24.here hx rfl (hb hby at_135) rfl (teq hb25).2 k) ?_
          show Goes p e below QQ (T24.setTop (mkF m 138 #[.val (.long p1), .second, .val (.long p2), .second, iv p3, .val (.long (if (p3 &&& (1 : Int32)) = (0 : Int32) then (p1 ^^^ p2) else p1)), .second, iv (((p3.toUInt32 >>> ((1 : Int32) &&& 31).toUInt32).toInt32) &&& (3 : Int32)), rv b2, rv b11, iv (if p1 = (if (p3 &&& (1 : Int32)) = (0 : Int32) then (p1 ^^^ p2) else p1) then (1 : Int32) else (0 : Int32))] []))
          refine Goes.on (fun t k => XS.iconst X24.here hx rfl (hb hby at_138) k) ?_
          show Goes p e below QQ (T24.setTop (mkF m 139 #[.val (.long p1), .second, .val (.long p2), .second, iv p3, .val (.long (if (p3 &&& (1 : Int32)) = (0 : Int32) then (p1 ^^^ p2) else p1)), .second, iv (((p3.toUInt32 >>> ((1 : Int32) &&& 31).toUInt32).toInt32) &&& (3 : Int32)), rv b2, rv b11, iv (if p1 = (if (p3 &&& (1 : Int32)) = (0 : Int32) then (p1 ^^^ p2) else p1) then (1 : Int32) else (0 : Int32))] [(.int 1)]))
          refine Goes.on (fun t k => XS.goto X24.here hx rfl (pc0 := 139) (pc' := 143) rfl (hb hby at_139) (by decide) (by decide) k) ?_
          show Goes p e below QQ (T24.setTop (mkF m 143 #[.val (.long p1), .second, .val (.long p2), .second, iv p3, .val (.long (if (p3 &&& (1 : Int32)) = (0 : Int32) then (p1 ^^^ p2) else p1)), .second, iv (((p3.toUInt32 >>> ((1 : Int32) &&& 31).toUInt32).toInt32) &&& (3 : Int32)), rv b2, rv b11, iv (if p1 = (if (p3 &&& (1 : Int32)) = (0 : Int32) then (p1 ^^^ p2) else p1) then (1 : Int32) else (0 : Int32))] [(.int 1)]))
          exact Goes.rN X24 hx (t := .boolean) hret (by simp) hlk (hb hby at_143) hQQ ⟨rfl, N24⟩ (by decide) (by decide)
        · refine Goes.on (fun t k => XS.icmpYes X24.here hx rfl (pc0 := 135) (pc' := 142) rfl (hb hby at_135) rfl (feq hb25).2 (by decide) (by decide) k) ?_
          show Goes p e below QQ (T24.setTop (mkF m 142 #[.val (.long p1), .second, .val (.long p2), .second, iv p3, .val (.long (if (p3 &&& (1 : Int32)) = (0 : Int32) then (p1 ^^^ p2) else p1)), .second, iv (((p3.toUInt32 >>> ((1 : Int32) &&& 31).toUInt32).toInt32) &&& (3 : Int32)), rv b2, rv b11, iv (if p1 = (if (p3 &&& (1 : Int32)) = (0 : Int32) then (p1 ^^^ p2) else p1) then (1 : Int32) else (0 : Int32))] []))
          refine Goes.on (fun t k => XS.iconst X24.here hx rfl (hb hby at_142) k) ?_
          show Goes p e below QQ (T24.setTop (mkF m 143 #[.val (.long p1), .second, .val (.long p2), .second, iv p3, .val (.long (if (p3 &&& (1 : Int32)) = (0 : Int32) then (p1 ^^^ p2) else p1)), .second, iv (((p3.toUInt32 >>> ((1 : Int32) &&& 31).toUInt32).toInt32) &&& (3 : Int32)), rv b2, rv b11, iv (if p1 = (if (p3 &&& (1 : Int32)) = (0 : Int32) then (p1 ^^^ p2) else p1) then (1 : Int32) else (0 : Int32))] [(.int 0)]))
          exact absurd ((((if_pos hb10).trans ((if_neg hb25).trans rfl)) : lawF p1 p2 p3 = (0 : Int32)).symm.trans (lawT p1 p2 p3)) (by decide)
      show Goes p e below QQ (T16.setTop (mkF m 54 #[.val (.long p1), .second, .val (.long p2), .second, iv p3, .val (.long (if (p3 &&& (1 : Int32)) = (0 : Int32) then (p1 ^^^ p2) else p1)), .second, iv (((p3.toUInt32 >>> ((1 : Int32) &&& 31).toUInt32).toInt32) &&& (3 : Int32)), rv b2, rv b11, .unset] [(.int (lcmpW p1 (if (p3 &&& (1 : Int32)) = (0 : Int32) then (p1 ^^^ p2) else p1)))]))
      by_cases hb26 : p1 = (if (p3 &&& (1 : Int32)) = (0 : Int32) then (p1 ^^^ p2) else p1)
      · refine Goes.on (fun t k => XS.ifNo X16.here hx rfl (hb hby at_54) rfl ((if0 _ _).trans (teq ((lw_eq p1 (if (p3 &&& (1 : Int32)) = (0 : Int32) then (p1 ^^^ p2) else p1)).mpr hb26)).2) k) ?_
        show Goes p e below QQ (T16.setTop (mkF m 57 #[.val (.long p1), .second, .val (.long p2), .second, iv p3, .val (.long (if (p3 &&& (1 : Int32)) = (0 : Int32) then (p1 ^^^ p2) else p1)), .second, iv (((p3.toUInt32 >>> ((1 : Int32) &&& 31).toUInt32).toInt32) &&& (3 : Int32)), rv b2, rv b11, .unset] []))
        refine Goes.on (fun t k => XS.iconst X16.here hx rfl (hb hby at_57) k) ?_
        show Goes p e below QQ (T16.setTop (mkF m 58 #[.val (.long p1), .second, .val (.long p2), .second, iv p3, .val (.long (if (p3 &&& (1 : Int32)) = (0 : Int32) then (p1 ^^^ p2) else p1)), .second, iv (((p3.toUInt32 >>> ((1 : Int32) &&& 31).toUInt32).toInt32) &&& (3 : Int32)), rv b2, rv b11, .unset] [(.int 1)]))
        refine Goes.on (fun t k => XS.goto X16.here hx rfl (pc0 := 58) (pc' := 62) rfl (hb hby at_58) (by decide) (by decide) k) ?_
        show Goes p e below QQ (T16.setTop (mkF m 62 #[.val (.long p1), .second, .val (.long p2), .second, iv p3, .val (.long (if (p3 &&& (1 : Int32)) = (0 : Int32) then (p1 ^^^ p2) else p1)), .second, iv (((p3.toUInt32 >>> ((1 : Int32) &&& 31).toUInt32).toInt32) &&& (3 : Int32)), rv b2, rv b11, .unset] [(.int 1)]))
        rw [(((if_pos hb26).trans rfl) : (if p1 = (if (p3 &&& (1 : Int32)) = (0 : Int32) then (p1 ^^^ p2) else p1) then (1 : Int32) else (0 : Int32)) = (1 : Int32))] at J23
        exact J23 _ _ X16 rfl N16
      · refine Goes.on (fun t k => XS.ifYes X16.here hx rfl (pc0 := 54) (pc' := 61) rfl (hb hby at_54) rfl ((if0 _ _).trans (feq (mt (lw_eq p1 (if (p3 &&& (1 : Int32)) = (0 : Int32) then (p1 ^^^ p2) else p1)).mp hb26)).2) (by decide) (by decide) k) ?_
        show Goes p e below QQ (T16.setTop (mkF m 61 #[.val (.long p1), .second, .val (.long p2), .second, iv p3, .val (.long (if (p3 &&& (1 : Int32)) = (0 : Int32) then (p1 ^^^ p2) else p1)), .second, iv (((p3.toUInt32 >>> ((1 : Int32) &&& 31).toUInt32).toInt32) &&& (3 : Int32)), rv b2, rv b11, .unset] []))
        refine Goes.on (fun t k => XS.iconst X16.here hx rfl (hb hby at_61) k) ?_
        show Goes p e below QQ (T16.setTop (mkF m 62 #[.val (.long p1), .second, .val (.long p2), .second, iv p3, .val (.long (if (p3 &&& (1 : Int32)) = (0 : Int32) then (p1 ^^^ p2) else p1)), .second, iv (((p3.toUInt32 >>> ((1 : Int32) &&& 31).toUInt32).toInt32) &&& (3 : Int32)), rv b2, rv b11, .unset] [(.int 0)]))
        rw [(((if_neg hb26).trans rfl) : (if p1 = (if (p3 &&& (1 : Int32)) = (0 : Int32) then (p1 ^^^ p2) else p1) then (1 : Int32) else (0 : Int32)) = (0 : Int32))] at J23
        exact J23 _ _ X16 rfl N16
    · refine Goes.on (fun t k => XS.ifYes X5.here hx rfl (pc0 := 36) (pc' := 67) rfl (hb hby at_36) rfl ((if0 _ _).trans (feq hb10).2) (by decide) (by decide) k) ?_
      show Goes p e below QQ (T5.setTop (mkF m 67 #[.val (.long p1), .second, .val (.long p2), .second, iv p3, .val (.long (if (p3 &&& (1 : Int32)) = (0 : Int32) then (p1 ^^^ p2) else p1)), .second, iv (((p3.toUInt32 >>> ((1 : Int32) &&& 31).toUInt32).toInt32) &&& (3 : Int32)), rv b2, .unset, .unset] []))
      refine Goes.on (fun t k => XS.iload X5.here hx rfl (hb hby at_67) rfl k) ?_
      show Goes p e below QQ (T5.setTop (mkF m 69 #[.val (.long p1), .second, .val (.long p2), .second, iv p3, .val (.long (if (p3 &&& (1 : Int32)) = (0 : Int32) then (p1 ^^^ p2) else p1)), .second, iv (((p3.toUInt32 >>> ((1 : Int32) &&& 31).toUInt32).toInt32) &&& (3 : Int32)), rv b2, .unset, .unset] [(.int (((p3.toUInt32 >>> ((1 : Int32) &&& 31).toUInt32).toInt32) &&& (3 : Int32)))]))
      refine Goes.on (fun t k => XS.iconst X5.here hx rfl (hb hby at_69) k) ?_
      show Goes p e below QQ (T5.setTop (mkF m 70 #[.val (.long p1), .second, .val (.long p2), .second, iv p3, .val (.long (if (p3 &&& (1 : Int32)) = (0 : Int32) then (p1 ^^^ p2) else p1)), .second, iv (((p3.toUInt32 >>> ((1 : Int32) &&& 31).toUInt32).toInt32) &&& (3 : Int32)), rv b2, .unset, .unset] [(.int 1), (.int (((p3.toUInt32 >>> ((1 : Int32) &&& 31).toUInt32).toInt32) &&& (3 : Int32)))]))
      by_cases hb27 : (((p3.toUInt32 >>> ((1 : Int32) &&& 31).toUInt32).toInt32) &&& (3 : Int32)) = (1 : Int32)
      · refine Goes.on (fun t k => XS.icmpNo X5.here hx rfl (hb hby at_70) rfl (teq hb27).2 k) ?_
        show Goes p e below QQ (T5.setTop (mkF m 73 #[.val (.long p1), .second, .val (.long p2), .second, iv p3, .val (.long (if (p3 &&& (1 : Int32)) = (0 : Int32) then (p1 ^^^ p2) else p1)), .second, iv (((p3.toUInt32 >>> ((1 : Int32) &&& 31).toUInt32).toInt32) &&& (3 : Int32)), rv b2, .unset, .unset] []))
        refine Goes.on (fun t k => XS.aconstNull X5.here hx rfl (hb hby at_73) k) ?_
        show Goes p e below QQ (T5.setTop (mkF m 74 #[.val (.long p1), .second, .val (.long p2), .second, iv p3, .val (.long (if (p3 &&& (1 : Int32)) = (0 : Int32) then (p1 ^^^ p2) else p1)), .second, iv (((p3.toUInt32 >>> ((1 : Int32) &&& 31).toUInt32).toInt32) &&& (3 : Int32)), rv b2, .unset, .unset] [.null]))
        refine Goes.on (fun t k => XS.astore X5.here hx rfl (hb hby at_74) rfl rfl (l' := #[.val (.long p1), .second, .val (.long p2), .second, iv p3, .val (.long (if (p3 &&& (1 : Int32)) = (0 : Int32) then (p1 ^^^ p2) else p1)), .second, iv (((p3.toUInt32 >>> ((1 : Int32) &&& 31).toUInt32).toInt32) &&& (3 : Int32)), rv b2, .val .null, .unset]) rfl k) ?_
        show Goes p e below QQ (T5.setTop (mkF m 76 #[.val (.long p1), .second, .val (.long p2), .second, iv p3, .val (.long (if (p3 &&& (1 : Int32)) = (0 : Int32) then (p1 ^^^ p2) else p1)), .second, iv (((p3.toUInt32 >>> ((1 : Int32) &&& 31).toUInt32).toInt32) &&& (3 : Int32)), rv b2, .val .null, .unset] []))
        refine Goes.on (fun t k => XS.iconst X5.here hx rfl (hb hby at_76) k) ?_
        show Goes p e below QQ (T5.setTop (mkF m 77 #[.val (.long p1), .second, .val (.long p2), .second, iv p3, .val (.long (if (p3 &&& (1 : Int32)) = (0 : Int32) then (p1 ^^^ p2) else p1)), .second, iv (((p3.toUInt32 >>> ((1 : Int32) &&& 31).toUInt32).toInt32) &&& (3 : Int32)), rv b2, .val .null, .unset] [(.int 0)]))
        refine Goes.on (fun t k => XS.istore X5.here hx rfl (hb hby at_77) rfl (l' := #[.val (.long p1), .second, .val (.long p2), .second, iv p3, .val (.long (if (p3 &&& (1 : Int32)) = (0 : Int32) then (p1 ^^^ p2) else p1)), .second, iv (((p3.toUInt32 >>> ((1 : Int32) &&& 31).toUInt32).toInt32) &&& (3 : Int32)), rv b2, .val .null, iv 0]) rfl k) ?_
        show Goes p e below QQ (T5.setTop (mkF m 79 #[.val (.long p1), .second, .val (.long p2), .second, iv p3, .val (.long (if (p3 &&& (1 : Int32)) = (0 : Int32) then (p1 ^^^ p2) else p1)), .second, iv (((p3.toUInt32 >>> ((1 : Int32) &&& 31).toUInt32).toInt32) &&& (3 : Int32)), rv b2, .val .null, iv 0] []))
        refine Goes.on (fun t k => XS.goto X5.here hx rfl (pc0 := 79) (pc' := 126) rfl (hb hby at_79) (by decide) (by decide) k) ?_
        show Goes p e below QQ (T5.setTop (mkF m 126 #[.val (.long p1), .second, .val (.long p2), .second, iv p3, .val (.long (if (p3 &&& (1 : Int32)) = (0 : Int32) then (p1 ^^^ p2) else p1)), .second, iv (((p3.toUInt32 >>> ((1 : Int32) &&& 31).toUInt32).toInt32) &&& (3 : Int32)), rv b2, .val .null, iv 0] []))
        refine Goes.on (fun t k => XS.aload X5.here hx rfl (hb hby at_126) rfl rfl k) ?_
        show Goes p e below QQ (T5.setTop (mkF m 128 #[.val (.long p1), .second, .val (.long p2), .second, iv p3, .val (.long (if (p3 &&& (1 : Int32)) = (0 : Int32) then (p1 ^^^ p2) else p1)), .second, iv (((p3.toUInt32 >>> ((1 : Int32) &&& 31).toUInt32).toInt32) &&& (3 : Int32)), rv b2, .val .null, iv 0] [(.ref b2)]))
        refine Goes.on (fun t k => XS.aload X5.here hx rfl (hb hby at_128) rfl rfl k) ?_
        show Goes p e below QQ (T5.setTop (mkF m 130 #[.val (.long p1), .second, .val (.long p2), .second, iv p3, .val (.long (if (p3 &&& (1 : Int32)) = (0 : Int32) then (p1 ^^^ p2) else p1)), .second, iv (((p3.toUInt32 >>> ((1 : Int32) &&& 31).toUInt32).toInt32) &&& (3 : Int32)), rv b2, .val .null, iv 0] [.null, (.ref b2)]))
        obtain ⟨cq28, kq28, q28a, q28b, q28c⟩ := isOf hZ rfl A2_7
        obtain ⟨_, _, ⟨T28, L28, k28, n28⟩, -, X28, ⟨Lc28, hQ28, l28, y28, z28⟩, st28⟩ := X5.virtualBack hx (y := (⟨"com/example/bindery/bindery/IntegerValue", "equals", "(Ljava/lang/Object;)Z"⟩ : MethodName)) (z := (⟨"com/example/bindery/bindery/IntegerValue", "equals", "(Ljava/lang/Object;)Z"⟩ : MethodName)) hown (mvT hZ (hw _ (List.mem_of_getElem? (i := 16) rfl))) (mvT hZ (hw _ (List.mem_of_getElem? (i := 17) rfl))) (notFace_of_selects (args := #[]) (mvT hZ (hw _ (List.mem_of_getElem? (i := 19) rfl)))) (mvT hZ (hw _ (List.mem_of_getElem? (i := 19) rfl))) (mvT hZ (hw _ (List.mem_of_getElem? (i := 18) rfl))) (by decide) (backOf (W := 0) (rm3a l Z a0 hw [] b2 T5.heap n0 (Nat.le_trans Z0 K9.1)) hZ (hw _ (List.mem_of_getElem? (i := 20) rfl)) (hw _ (List.mem_of_getElem? (i := 2) rfl)) (by decide) (by decide)) q28a q28c (g := (mkF m 130 #[.val (.long p1), .second, .val (.long p2), .second, iv p3, .val (.long (if (p3 &&& (1 : Int32)) = (0 : Int32) then (p1 ^^^ p2) else p1)), .second, iv (((p3.toUInt32 >>> ((1 : Int32) &&& 31).toUInt32).toInt32) &&& (3 : Int32)), rv b2, .val .null, iv 0] [.null, (.ref b2)])) rfl (by rw [hml]; rfl) (Steps.refl _) (argsL := [.null]) (rest := []) (lenOf pd_2 rfl) rfl (by show 2 * 0 + _ ≤ _; exact Nat.le_of_eq rfl) (hb hby at_130) (fun _ _ => ⟨rfl, rfl, (by decide : 1 + 0 ≤ _), (by decide : 1 + 0 ≤ _)⟩)
        dsimp only [Pt.U, Pt.locs, Pt.cells, Pt.slots] at X28 l28 y28 z28 st28 hQ28
        subst l28 y28 z28
        obtain ⟨rfl, M28, e28⟩ := hQ28
        have N28 := Fr.app N5 M28
        refine Goes.on (fun t k => st28.trans k) ?_
        show Goes p e below QQ (T28.setTop (mkF m 133 #[.val (.long p1), .second, .val (.long p2), .second, iv p3, .val (.long (if (p3 &&& (1 : Int32)) = (0 : Int32) then (p1 ^^^ p2) else p1)), .second, iv (((p3.toUInt32 >>> ((1 : Int32) &&& 31).toUInt32).toInt32) &&& (3 : Int32)), rv b2, .val .null, iv 0] [(.int 0)]))
        refine Goes.on (fun t k => XS.iload X28.here hx rfl (hb hby at_133) rfl k) ?_
        show Goes p e below QQ (T28.setTop (mkF m 135 #[.val (.long p1), .second, .val (.long p2), .second, iv p3, .val (.long (if (p3 &&& (1 : Int32)) = (0 : Int32) then (p1 ^^^ p2) else p1)), .second, iv (((p3.toUInt32 >>> ((1 : Int32) &&& 31).toUInt32).toInt32) &&& (3 : Int32)), rv b2, .val .null, iv 0] [(.int 0), (.int 0)]))
        refine Goes.on (fun t k => XS.icmpNo X28.here hx rfl (hb hby at_135) rfl (teq (by decide)).2 k) ?_
        show Goes p e below QQ (T28.setTop (mkF m 138 #[.val (.long p1), .second, .val (.long p2), .second, iv p3, .val (.long (if (p3 &&& (1 : Int32)) = (0 : Int32) then (p1 ^^^ p2) else p1)), .second, iv (((p3.toUInt32 >>> ((1 : Int32) &&& 31).toUInt32).toInt32) &&& (3 : Int32)), rv b2, .val .null, iv 0] []))
        refine Goes.on (fun t k => XS.iconst X28.here hx rfl (hb hby at_138) k) ?_
        show Goes p e below QQ (T28.setTop (mkF m 139 #[.val (.long p1), .second, .val (.long p2), .second, iv p3, .val (.long (if (p3 &&& (1 : Int32)) = (0 : Int32) then (p1 ^^^ p2) else p1)), .second, iv (((p3.toUInt32 >>> ((1 : Int32) &&& 31).toUInt32).toInt32) &&& (3 : Int32)), rv b2, .val .null, iv 0] [(.int 1)]))
        refine Goes.on (fun t k => XS.goto X28.here hx rfl (pc0 := 139) (pc' := 143) rfl (hb hby at_139) (by decide) (by decide) k) ?_
        show Goes p e below QQ (T28.setTop (mkF m 143 #[.val (.long p1), .second, .val (.long p2), .second, iv p3, .val (.long (if (p3 &&& (1 : Int32)) = (0 : Int32) then (p1 ^^^ p2) else p1)), .second, iv (((p3.toUInt32 >>> ((1 : Int32) &&& 31).toUInt32).toInt32) &&& (3 : Int32)), rv b2, .val .null, iv 0] [(.int 1)]))
        exact Goes.rN X28 hx (t := .boolean) hret (by simp) hlk (hb hby at_143) hQQ ⟨rfl, N28⟩ (by decide) (by decide)
      · refine Goes.on (fun t k => XS.icmpYes X5.here hx rfl (pc0 := 70) (pc' := 82) rfl (hb hby at_70) rfl (feq hb27).2 (by decide) (by decide) k) ?_
        show Goes p e below QQ (T5.setTop (mkF m 82 #[.val (.long p1), .second, .val (.long p2), .second, iv p3, .val (.long (if (p3 &&& (1 : Int32)) = (0 : Int32) then (p1 ^^^ p2) else p1)), .second, iv (((p3.toUInt32 >>> ((1 : Int32) &&& 31).toUInt32).toInt32) &&& (3 : Int32)), rv b2, .unset, .unset] []))
        refine Goes.on (fun t k => XS.iload X5.here hx rfl (hb hby at_82) rfl k) ?_
        show Goes p e below QQ (T5.setTop (mkF m 84 #[.val (.long p1), .second, .val (.long p2), .second, iv p3, .val (.long (if (p3 &&& (1 : Int32)) = (0 : Int32) then (p1 ^^^ p2) else p1)), .second, iv (((p3.toUInt32 >>> ((1 : Int32) &&& 31).toUInt32).toInt32) &&& (3 : Int32)), rv b2, .unset, .unset] [(.int (((p3.toUInt32 >>> ((1 : Int32) &&& 31).toUInt32).toInt32) &&& (3 : Int32)))]))
        refine Goes.on (fun t k => XS.iconst X5.here hx rfl (hb hby at_84) k) ?_
        show Goes p e below QQ (T5.setTop (mkF m 85 #[.val (.long p1), .second, .val (.long p2), .second, iv p3, .val (.long (if (p3 &&& (1 : Int32)) = (0 : Int32) then (p1 ^^^ p2) else p1)), .second, iv (((p3.toUInt32 >>> ((1 : Int32) &&& 31).toUInt32).toInt32) &&& (3 : Int32)), rv b2, .unset, .unset] [(.int 2), (.int (((p3.toUInt32 >>> ((1 : Int32) &&& 31).toUInt32).toInt32) &&& (3 : Int32)))]))
        by_cases hb29 : (((p3.toUInt32 >>> ((1 : Int32) &&& 31).toUInt32).toInt32) &&& (3 : Int32)) = (2 : Int32)
        · refine Goes.on (fun t k => XS.icmpNo X5.here hx rfl (hb hby at_85) rfl (teq hb29).2 k) ?_
          show Goes p e below QQ (T5.setTop (mkF m 88 #[.val (.long p1), .second, .val (.long p2), .second, iv p3, .val (.long (if (p3 &&& (1 : Int32)) = (0 : Int32) then (p1 ^^^ p2) else p1)), .second, iv (((p3.toUInt32 >>> ((1 : Int32) &&& 31).toUInt32).toInt32) &&& (3 : Int32)), rv b2, .unset, .unset] []))
          obtain ⟨T30, h30, X30, e30, E30, A30, D30, -, st30⟩ := newO X5 hx hZ hown (hw _ (List.mem_of_getElem? (i := 34) rfl)) (hw _ (List.mem_of_getElem? (i := 35) rfl)) (hw _ (List.mem_of_getElem? (i := 36) rfl)) rfl (g := (mkF m 88 #[.val (.long p1), .second, .val (.long p2), .second, iv p3, .val (.long (if (p3 &&& (1 : Int32)) = (0 : Int32) then (p1 ^^^ p2) else p1)), .second, iv (((p3.toUInt32 >>> ((1 : Int32) &&& 31).toUInt32).toInt32) &&& (3 : Int32)), rv b2, .unset, .unset] [])) rfl (hb hby at_88) (by decide) (by decide)
          obtain ⟨b30, g30⟩ : ∃ z, z = T5.heap.size := ⟨_, rfl⟩
          rw [← g30] at A30 D30 st30
          have sz_b30 : h0.size ≤ b30 := Nat.le_trans K9.1 (Nat.le_of_eq g30.symm)
          have g_b30 : n0 ≤ b30 := Nat.le_trans Z0 sz_b30
          have ne_b2_b30 : b2 ≠ b30 := Nat.ne_of_lt (Nat.lt_of_lt_of_le A2_7.lt (Nat.le_of_eq g30.symm))
          have O_31 := O_6.ext E30
          have A2_32 := A2_7.ext E30
          have Fv29_33 := Fv29.ext E30
          have K30 := K9.ext E30
          have F_34 : Fld Z h30 b30 "com/example/bindery/bindery/BooleanValue" "value" "Z" (.int 0) := D30 (Or.inr (hw _ (List.mem_of_getElem? (i := 42) rfl))) (ty := .boolean) (by decide)
          refine Goes.on (fun t k => st30 t k) ?_
          show Goes p e below QQ (T30.setTop (mkF m 91 #[.val (.long p1), .second, .val (.long p2), .second, iv p3, .val (.long (if (p3 &&& (1 : Int32)) = (0 : Int32) then (p1 ^^^ p2) else p1)), .second, iv (((p3.toUInt32 >>> ((1 : Int32) &&& 31).toUInt32).toInt32) &&& (3 : Int32)), rv b2, .unset, .unset] [(.ref b30)]))
          refine Goes.on (fun t k => XS.dup X30.here hx rfl (hb hby at_91) rfl rfl k) ?_
          show Goes p e below QQ (T30.setTop (mkF m 92 #[.val (.long p1), .second, .val (.long p2), .second, iv p3, .val (.long (if (p3 &&& (1 : Int32)) = (0 : Int32) then (p1 ^^^ p2) else p1)), .second, iv (((p3.toUInt32 >>> ((1 : Int32) &&& 31).toUInt32).toInt32) &&& (3 : Int32)), rv b2, .unset, .unset] [(.ref b30), (.ref b30)]))
          refine Goes.on (fun t k => XS.lloadN X30.here hx rfl (hb hby at_92) rfl k) ?_
          show Goes p e below QQ (T30.setTop (mkF m 93 #[.val (.long p1), .second, .val (.long p2), .second, iv p3, .val (.long (if (p3 &&& (1 : Int32)) = (0 : Int32) then (p1 ^^^ p2) else p1)), .second, iv (((p3.toUInt32 >>> ((1 : Int32) &&& 31).toUInt32).toInt32) &&& (3 : Int32)), rv b2, .unset, .unset] [(.long p2), (.ref b30), (.ref b30)]))
          refine Goes.on (fun t k => XS.lconst X30.here hx rfl (hb hby at_93) k) ?_
          show Goes p e below QQ (T30.setTop (mkF m 94 #[.val (.long p1), .second, .val (.long p2), .second, iv p3, .val (.long (if (p3 &&& (1 : Int32)) = (0 : Int32) then (p1 ^^^ p2) else p1)), .second, iv (((p3.toUInt32 >>> ((1 : Int32) &&& 31).toUInt32).toInt32) &&& (3 : Int32)), rv b2, .unset, .unset] [(.long (1 : Int64)), (.long p2), (.ref b30), (.ref b30)]))
          refine Goes.on (fun t k => XS.land X30.here hx rfl (hb hby at_94) rfl k) ?_
          show Goes p e below QQ (T30.setTop (mkF m 95 #[.val (.long p1), .second, .val (.long p2), .second, iv p3, .val (.long (if (p3 &&& (1 : Int32)) = (0 : Int32) then (p1 ^^^ p2) else p1)), .second, iv (((p3.toUInt32 >>> ((1 : Int32) &&& 31).toUInt32).toInt32) &&& (3 : Int32)), rv b2, .unset, .unset] [(.long (p2 &&& (1 : Int64))), (.ref b30), (.ref b30)]))
          refine Goes.on (fun t k => XS.lconst X30.here hx rfl (hb hby at_95) k) ?_
          show Goes p e below QQ (T30.setTop (mkF m 96 #[.val (.long p1), .second, .val (.long p2), .second, iv p3, .val (.long (if (p3 &&& (1 : Int32)) = (0 : Int32) then (p1 ^^^ p2) else p1)), .second, iv (((p3.toUInt32 >>> ((1 : Int32) &&& 31).toUInt32).toInt32) &&& (3 : Int32)), rv b2, .unset, .unset] [(.long (0 : Int64)), (.long (p2 &&& (1 : Int64))), (.ref b30), (.ref b30)]))
          refine Goes.on (fun t k => XS.lcmp X30.here hx rfl (hb hby at_96) rfl k) ?_
          show Goes p e below QQ (T30.setTop (mkF m 97 #[.val (.long p1), .second, .val (.long p2), .second, iv p3, .val (.long (if (p3 &&& (1 : Int32)) = (0 : Int32) then (p1 ^^^ p2) else p1)), .second, iv (((p3.toUInt32 >>> ((1 : Int32) &&& 31).toUInt32).toInt32) &&& (3 : Int32)), rv b2, .unset, .unset] [(.int (lcmpW (p2 &&& (1 : Int64)) (0 : Int64))), (.ref b30), (.ref b30)]))
          have J35 : ∀ (TJ35 : State) (lJ35 : List Loc), Stand p l e room_1 s m #[(.long p1), (.long p2), (.int p3)] below meth c TJ35 lJ35 2 2 → TJ35.heap = h30 → Fr n0 lJ35 → Goes p e below QQ (TJ35.setTop (mkF m 105 #[.val (.long p1), .second, .val (.long p2), .second, iv p3, .val (.long (if (p3 &&& (1 : Int32)) = (0 : Int32) then (p1 ^^^ p2) else p1)), .second, iv (((p3.toUInt32 >>> ((1 : Int32) &&& 31).toUInt32).toInt32) &&& (3 : Int32)), rv b2, .unset, .unset] [(.int (if (p2 &&& (1 : Int64)) = (0 : Int64) then (0 : Int32) else (1 : Int32))), (.ref b30), (.ref b30)])) := by
            intro TJ35 lJ35 XJ35 eJ35 NJ35
            obtain ⟨_, _, ⟨T36, L36, k36, n36⟩, -, X36, ⟨Lc36, hQ36, l36, y36, z36⟩, st36⟩ := XJ35.specialBack hx (y := (⟨"com/example/bindery/bindery/BooleanValue", "<init>", "(Z)V"⟩ : MethodName)) rfl hown (mvT hZ (hw _ (List.mem_of_getElem? (i := 37) rfl))) (mvT hZ (hw _ (List.mem_of_getElem? (i := 38) rfl))) (mvT hZ (hw _ (List.mem_of_getElem? (i := 39) rfl))) (by decide) (backOf (W := 1) (rm2 l Z a0 hw [] b30 (if (p2 &&& (1 : Int64)) = (0 : Int64) then (0 : Int32) else (1 : Int32)) h30 n0 (Nat.le_trans Z0 K30.1) A30 F_34 g_b30) hZ (hw _ (List.mem_of_getElem? (i := 39) rfl)) (hw _ (List.mem_of_getElem? (i := 36) rfl)) (by decide) (by decide)) (g := (mkF m 105 #[.val (.long p1), .second, .val (.long p2), .second, iv p3, .val (.long (if (p3 &&& (1 : Int32)) = (0 : Int32) then (p1 ^^^ p2) else p1)), .second, iv (((p3.toUInt32 >>> ((1 : Int32) &&& 31).toUInt32).toInt32) &&& (3 : Int32)), rv b2, .unset, .unset] [(.int (if (p2 &&& (1 : Int64)) = (0 : Int64) then (0 : Int32) else (1 : Int32))), (.ref b30), (.ref b30)])) rfl (by rw [hml]; rfl) (Steps.refl _) (a := b30) (argsL := [(.int (if (p2 &&& (1 : Int64)) = (0 : Int64) then (0 : Int32) else (1 : Int32)))]) (rest := [(.ref b30)]) (lenOf pd_3 rfl) rfl (by show 2 * 0 + _ ≤ _; exact Nat.le_of_eq rfl) (hb hby at_105) (fun _ _ => ⟨rfl, eJ35, (by decide : 2 + 0 ≤ _), (by decide : 2 + 0 ≤ _)⟩)
            dsimp only [Pt.U, Pt.locs, Pt.cells, Pt.slots] at X36 l36 y36 z36 st36 hQ36
            subst l36 y36 z36
            obtain ⟨rfl, M36, Kc105⟩ := hQ36
            have N36 := Fr.app NJ35 M36
            refine Goes.on (fun t k => st36.trans k) ?_
            have O_37 := O_31.keep Kc105 (allS g_b30 all0)
            have A2_38 := A2_32.keep Kc105
            have Fv29_39 := Fv29_33.keep Kc105 (ninS ne_b2_b30 nin0)
            have A30_40 := A30.keep Kc105
            have K42 := K30.trans Kc105 (allS (Or.inr sz_b30) all0)
            show Goes p e below QQ (T36.setTop (mkF m 108 #[.val (.long p1), .second, .val (.long p2), .second, iv p3, .val (.long (if (p3 &&& (1 : Int32)) = (0 : Int32) then (p1 ^^^ p2) else p1)), .second, iv (((p3.toUInt32 >>> ((1 : Int32) &&& 31).toUInt32).toInt32) &&& (3 : Int32)), rv b2, .unset, .unset] [(.ref b30)]))
            refine Goes.on (fun t k => XS.astore X36.here hx rfl (hb hby at_108) rfl rfl (l' := #[.val (.long p1), .second, .val (.long p2), .second, iv p3, .val (.long (if (p3 &&& (1 : Int32)) = (0 : Int32) then (p1 ^^^ p2) else p1)), .second, iv (((p3.toUInt32 >>> ((1 : Int32) &&& 31).toUInt32).toInt32) &&& (3 : Int32)), rv b2, rv b30, .unset]) rfl k) ?_
            show Goes p e below QQ (T36.setTop (mkF m 110 #[.val (.long p1), .second, .val (.long p2), .second, iv p3, .val (.long (if (p3 &&& (1 : Int32)) = (0 : Int32) then (p1 ^^^ p2) else p1)), .second, iv (((p3.toUInt32 >>> ((1 : Int32) &&& 31).toUInt32).toInt32) &&& (3 : Int32)), rv b2, rv b30, .unset] []))
            refine Goes.on (fun t k => XS.iconst X36.here hx rfl (hb hby at_110) k) ?_
            show Goes p e below QQ (T36.setTop (mkF m 111 #[.val (.long p1), .second, .val (.long p2), .second, iv p3, .val (.long (if (p3 &&& (1 : Int32)) = (0 : Int32) then (p1 ^^^ p2) else p1)), .second, iv (((p3.toUInt32 >>> ((1 : Int32) &&& 31).toUInt32).toInt32) &&& (3 : Int32)), rv b2, rv b30, .unset] [(.int 0)]))
            refine Goes.on (fun t k => XS.istore X36.here hx rfl (hb hby at_111) rfl (l' := #[.val (.long p1), .second, .val (.long p2), .second, iv p3, .val (.long (if (p3 &&& (1 : Int32)) = (0 : Int32) then (p1 ^^^ p2) else p1)), .second, iv (((p3.toUInt32 >>> ((1 : Int32) &&& 31).toUInt32).toInt32) &&& (3 : Int32)), rv b2, rv b30, iv 0]) rfl k) ?_
            show Goes p e below QQ (T36.setTop (mkF m 113 #[.val (.long p1), .second, .val (.long p2), .second, iv p3, .val (.long (if (p3 &&& (1 : Int32)) = (0 : Int32) then (p1 ^^^ p2) else p1)), .second, iv (((p3.toUInt32 >>> ((1 : Int32) &&& 31).toUInt32).toInt32) &&& (3 : Int32)), rv b2, rv b30, iv 0] []))
            refine Goes.on (fun t k => XS.goto X36.here hx rfl (pc0 := 113) (pc' := 126) rfl (hb hby at_113) (by decide) (by decide) k) ?_
            show Goes p e below QQ (T36.setTop (mkF m 126 #[.val (.long p1), .second, .val (.long p2), .second, iv p3, .val (.long (if (p3 &&& (1 : Int32)) = (0 : Int32) then (p1 ^^^ p2) else p1)), .second, iv (((p3.toUInt32 >>> ((1 : Int32) &&& 31).toUInt32).toInt32) &&& (3 : Int32)), rv b2, rv b30, iv 0] []))
            refine Goes.on (fun t k => XS.aload X36.here hx rfl (hb hby at_126) rfl rfl k) ?_
            show Goes p e below QQ (T36.setTop (mkF m 128 #[.val (.long p1), .second, .val (.long p2), .second, iv p3, .val (.long (if (p3 &&& (1 : Int32)) = (0 : Int32) then (p1 ^^^ p2) else p1)), .second, iv (((p3.toUInt32 >>> ((1 : Int32) &&& 31).toUInt32).toInt32) &&& (3 : Int32)), rv b2, rv b30, iv 0] [(.ref b2)]))
            refine Goes.on (fun t k => XS.aload X36.here hx rfl (hb hby at_128) rfl rfl k) ?_
            show Goes p e below QQ (T36.setTop (mkF m 130 #[.val (.long p1), .second, .val (.long p2), .second, iv p3, .val (.long (if (p3 &&& (1 : Int32)) = (0 : Int32) then (p1 ^^^ p2) else p1)), .second, iv (((p3.toUInt32 >>> ((1 : Int32) &&& 31).toUInt32).toInt32) &&& (3 : Int32)), rv b2, rv b30, iv 0] [(.ref b30), (.ref b2)]))
            obtain ⟨cq43, kq43, q43a, q43b, q43c⟩ := isOf hZ rfl A2_38
            obtain ⟨_, _, ⟨T43, L43, k43, n43⟩, -, X43, ⟨Lc43, hQ43, l43, y43, z43⟩, st43⟩ := X36.virtualBack hx (y := (⟨"com/example/bindery/bindery/IntegerValue", "equals", "(Ljava/lang/Object;)Z"⟩ : MethodName)) (z := (⟨"com/example/bindery/bindery/IntegerValue", "equals", "(Ljava/lang/Object;)Z"⟩ : MethodName)) hown (mvT hZ (hw _ (List.mem_of_getElem? (i := 16) rfl))) (mvT hZ (hw _ (List.mem_of_getElem? (i := 17) rfl))) (notFace_of_selects (args := #[]) (mvT hZ (hw _ (List.mem_of_getElem? (i := 19) rfl)))) (mvT hZ (hw _ (List.mem_of_getElem? (i := 19) rfl))) (mvT hZ (hw _ (List.mem_of_getElem? (i := 18) rfl))) (by decide) (backOf (W := 0) (rm3c l Z a0 hw [] b2 b30 T36.heap n0 (Nat.le_trans Z0 K42.1) A30_40) hZ (hw _ (List.mem_of_getElem? (i := 20) rfl)) (hw _ (List.mem_of_getElem? (i := 2) rfl)) (by decide) (by decide)) q43a q43c (g := (mkF m 130 #[.val (.long p1), .second, .val (.long p2), .second, iv p3, .val (.long (if (p3 &&& (1 : Int32)) = (0 : Int32) then (p1 ^^^ p2) else p1)), .second, iv (((p3.toUInt32 >>> ((1 : Int32) &&& 31).toUInt32).toInt32) &&& (3 : Int32)), rv b2, rv b30, iv 0] [(.ref b30), (.ref b2)])) rfl (by rw [hml]; rfl) (Steps.refl _) (argsL := [(.ref b30)]) (rest := []) (lenOf pd_2 rfl) rfl (by show 2 * 0 + _ ≤ _; exact Nat.le_of_eq rfl) (hb hby at_130) (fun _ _ => ⟨rfl, rfl, (by decide : 2 + 0 ≤ _), (by decide : 2 + 0 ≤ _)⟩)
            dsimp only [Pt.U, Pt.locs, Pt.cells, Pt.slots] at X43 l43 y43 z43 st43 hQ43
            subst l43 y43 z43
            obtain ⟨rfl, M43, e43⟩ := hQ43
            have N43 := Fr.app N36 M43
            refine Goes.on (fun t k => st43.trans k) ?_
            show Goes p e below QQ (T43.setTop (mkF m 133 #[.val (.long p1), .second, .val (.long p2), .second, iv p3, .val (.long (if (p3 &&& (1 : Int32)) = (0 : Int32) then (p1 ^^^ p2) else p1)), .second, iv (((p3.toUInt32 >>> ((1 : Int32) &&& 31).toUInt32).toInt32) &&& (3 : Int32)), rv b2, rv b30, iv 0] [(.int 0)]))
            refine Goes.on (fun t k => XS.iload X43.here hx rfl (hb hby at_133) rfl k) ?_
            show Goes p e below QQ (T43.setTop (mkF m 135 #[.val (.long p1), .second, .val (.long p2), .second, iv p3, .val (.long (if (p3 &&& (1 : Int32)) = (0 : Int32) then (p1 ^^^ p2) else p1)), .second, iv (((p3.toUInt32 >>> ((1 : Int32) &&& 31).toUInt32).toInt32) &&& (3 : Int32)), rv b2, rv b30, iv 0] [(.int 0), (.int 0)]))
            refine Goes.on (fun t k => XS.icmpNo X43.here hx rfl (hb hby at_135) rfl (teq (by decide)).2 k) ?_
            show Goes p e below QQ (T43.setTop (mkF m 138 #[.val (.long p1), .second, .val (.long p2), .second, iv p3, .val (.long (if (p3 &&& (1 : Int32)) = (0 : Int32) then (p1 ^^^ p2) else p1)), .second, iv (((p3.toUInt32 >>> ((1 : Int32) &&& 31).toUInt32).toInt32) &&& (3 : Int32)), rv b2, rv b30, iv 0] []))
            refine Goes.on (fun t k => XS.iconst X43.here hx rfl (hb hby at_138) k) ?_
            show Goes p e below QQ (T43.setTop (mkF m 139 #[.val (.long p1), .second, .val (.long p2), .second, iv p3, .val (.long (if (p3 &&& (1 : Int32)) = (0 : Int32) then (p1 ^^^ p2) else p1)), .second, iv (((p3.toUInt32 >>> ((1 : Int32) &&& 31).toUInt32).toInt32) &&& (3 : Int32)), rv b2, rv b30, iv 0] [(.int 1)]))
            refine Goes.on (fun t k => XS.goto X43.here hx rfl (pc0 := 139) (pc' := 143) rfl (hb hby at_139) (by decide) (by decide) k) ?_
            show Goes p e below QQ (T43.setTop (mkF m 143 #[.val (.long p1), .second, .val (.long p2), .second, iv p3, .val (.long (if (p3 &&& (1 : Int32)) = (0 : Int32) then (p1 ^^^ p2) else p1)), .second, iv (((p3.toUInt32 >>> ((1 : Int32) &&& 31).toUInt32).toInt32) &&& (3 : Int32)), rv b2, rv b30, iv 0] [(.int 1)]))
            exact Goes.rN X43 hx (t := .boolean) hret (by simp) hlk (hb hby at_143) hQQ ⟨rfl, N43⟩ (by decide) (by decide)
          show Goes p e below QQ (T30.setTop (mkF m 97 #[.val (.long p1), .second, .val (.long p2), .second, iv p3, .val (.long (if (p3 &&& (1 : Int32)) = (0 : Int32) then (p1 ^^^ p2) else p1)), .second, iv (((p3.toUInt32 >>> ((1 : Int32) &&& 31).toUInt32).toInt32) &&& (3 : Int32)), rv b2, .unset, .unset] [(.int (lcmpW (p2 &&& (1 : Int64)) (0 : Int64))), (.ref b30), (.ref b30)]))
          by_cases hb44 : (p2 &&& (1 : Int64)) = (0 : Int64)
          · refine Goes.on (fun t k => XS.ifYes X30.here hx rfl (pc0 := 97) (pc' := 104) rfl (hb hby at_97) rfl ((if0 _ _).trans (teq ((lw_eq (p2 &&& (1 : Int64)) (0 : Int64)).mpr hb44)).1) (by decide) (by decide) k) ?_
            show Goes p e below QQ (T30.setTop (mkF m 104 #[.val (.long p1), .second, .val (.long p2), .second, iv p3, .val (.long (if (p3 &&& (1 : Int32)) = (0 : Int32) then (p1 ^^^ p2) else p1)), .second, iv (((p3.toUInt32 >>> ((1 : Int32) &&& 31).toUInt32).toInt32) &&& (3 : Int32)), rv b2, .unset, .unset] [(.ref b30), (.ref b30)]))
            refine Goes.on (fun t k => XS.iconst X30.here hx rfl (hb hby at_104) k) ?_
            show Goes p e below QQ (T30.setTop (mkF m 105 #[.val (.long p1), .second, .val (.long p2), .second, iv p3, .val (.long (if (p3 &&& (1 : Int32)) = (0 : Int32) then (p1 ^^^ p2) else p1)), .second, iv (((p3.toUInt32 >>> ((1 : Int32) &&& 31).toUInt32).toInt32) &&& (3 : Int32)), rv b2, .unset, .unset] [(.int 0), (.ref b30), (.ref b30)]))
            rw [(((if_pos hb44).trans rfl) : (if (p2 &&& (1 : Int64)) = (0 : Int64) then (0 : Int32) else (1 : Int32)) = (0 : Int32))] at J35
            exact J35 _ _ X30 e30 N5
          · refine Goes.on (fun t k => XS.ifNo X30.here hx rfl (hb hby at_97) rfl ((if0 _ _).trans (feq (mt (lw_eq (p2 &&& (1 : Int64)) (0 : Int64)).mp hb44)).1) k) ?_
            show Goes p e below QQ (T30.setTop (mkF m 100 #[.val (.long p1), .second, .val (.long p2), .second, iv p3, .val (.long (if (p3 &&& (1 : Int32)) = (0 : Int32) then (p1 ^^^ p2) else p1)), .second, iv (((p3.toUInt32 >>> ((1 : Int32) &&& 31).toUInt32).toInt32) &&& (3 : Int32)), rv b2, .unset, .unset] [(.ref b30), (.ref b30)]))
            refine Goes.on (fun t k => XS.iconst X30.here hx rfl (hb hby at_100) k) ?_
            show Goes p e below QQ (T30.setTop (mkF m 101 #[.val (.long p1), .second, .val (.long p2), .second, iv p3, .val (.long (if (p3 &&& (1 : Int32)) = (0 : Int32) then (p1 ^^^ p2) else p1)), .second, iv (((p3.toUInt32 >>> ((1 : Int32) &&& 31).toUInt32).toInt32) &&& (3 : Int32)), rv b2, .unset, .unset] [(.int 1), (.ref b30), (.ref b30)]))
            refine Goes.on (fun t k => XS.goto X30.here hx rfl (pc0 := 101) (pc' := 105) rfl (hb hby at_101) (by decide) (by decide) k) ?_
            show Goes p e below QQ (T30.setTop (mkF m 105 #[.val (.long p1), .second, .val (.long p2), .second, iv p3, .val (.long (if (p3 &&& (1 : Int32)) = (0 : Int32) then (p1 ^^^ p2) else p1)), .second, iv (((p3.toUInt32 >>> ((1 : Int32) &&& 31).toUInt32).toInt32) &&& (3 : Int32)), rv b2, .unset, .unset] [(.int 1), (.ref b30), (.ref b30)]))
            rw [(((if_neg hb44).trans rfl) : (if (p2 &&& (1 : Int64)) = (0 : Int64) then (0 : Int32) else (1 : Int32)) = (1 : Int32))] at J35
            exact J35 _ _ X30 e30 N5
        · refine Goes.on (fun t k => XS.icmpYes X5.here hx rfl (pc0 := 85) (pc' := 116) rfl (hb hby at_85) rfl (feq hb29).2 (by decide) (by decide) k) ?_
          show Goes p e below QQ (T5.setTop (mkF m 116 #[.val (.long p1), .second, .val (.long p2), .second, iv p3, .val (.long (if (p3 &&& (1 : Int32)) = (0 : Int32) then (p1 ^^^ p2) else p1)), .second, iv (((p3.toUInt32 >>> ((1 : Int32) &&& 31).toUInt32).toInt32) &&& (3 : Int32)), rv b2, .unset, .unset] []))
          refine Goes.on (fun t k => XS.lload X5.here hx rfl (hb hby at_116) rfl k) ?_
          show Goes p e below QQ (T5.setTop (mkF m 118 #[.val (.long p1), .second, .val (.long p2), .second, iv p3, .val (.long (if (p3 &&& (1 : Int32)) = (0 : Int32) then (p1 ^^^ p2) else p1)), .second, iv (((p3.toUInt32 >>> ((1 : Int32) &&& 31).toUInt32).toInt32) &&& (3 : Int32)), rv b2, .unset, .unset] [(.long (if (p3 &&& (1 : Int32)) = (0 : Int32) then (p1 ^^^ p2) else p1))]))
          obtain ⟨_, _, ⟨T45, L45, k45, n45⟩, -, X45, ⟨Lc45, hQ45, l45, y45, z45⟩, st45⟩ := Jvm.LawKit.callS X5 hx (y := (⟨"java/lang/Long", "valueOf", "(J)Ljava/lang/Long;"⟩ : MethodName)) hown (mvT hZ (hw _ (List.mem_of_getElem? (i := 23) rfl))) (mvT hZ (hw _ (List.mem_of_getElem? (i := 24) rfl))) (mvT hZ (hw _ (List.mem_of_getElem? (i := 25) rfl))) (mvT hZ (hw _ (List.mem_of_getElem? (i := 26) rfl))) (by decide) (backOf (W := 0) (rmVo l Z a0 hw [] (if (p3 &&& (1 : Int32)) = (0 : Int32) then (p1 ^^^ p2) else p1) xC cc T5.heap n0 (Nat.le_trans Z0 K9.1) S_cache O_6 A_c sz_c El) hZ (hw _ (List.mem_of_getElem? (i := 26) rfl)) (hw _ (List.mem_of_getElem? (i := 25) rfl)) (by decide) (by decide)) (g := (mkF m 118 #[.val (.long p1), .second, .val (.long p2), .second, iv p3, .val (.long (if (p3 &&& (1 : Int32)) = (0 : Int32) then (p1 ^^^ p2) else p1)), .second, iv (((p3.toUInt32 >>> ((1 : Int32) &&& 31).toUInt32).toInt32) &&& (3 : Int32)), rv b2, .unset, .unset] [(.long (if (p3 &&& (1 : Int32)) = (0 : Int32) then (p1 ^^^ p2) else p1))])) rfl (by rw [hml]; rfl) (argsL := [(.long (if (p3 &&& (1 : Int32)) = (0 : Int32) then (p1 ^^^ p2) else p1))]) (rest := []) (lenOf pd_4 rfl) rfl (by show 2 * 0 + _ ≤ _; exact Nat.le_of_eq rfl) (hb hby at_118) (fun _ _ => ⟨rfl, rfl, (by decide : 1 + 1 ≤ _), (by decide : 1 + 1 ≤ _)⟩)
          dsimp only [Pt.U, Pt.locs, Pt.cells, Pt.slots] at X45 l45 y45 z45 st45 hQ45
          subst l45 y45 z45
          obtain ⟨bL, rfl, M45, Kc118, E_L⟩ := hQ45
          have N45 := Fr.app N5 M45
          refine Goes.on (fun t k => st45 _ k) ?_
          have O_46 := O_6.keep Kc118 all0
          have A2_47 := A2_7.keep Kc118
          have Fv29_48 := Fv29.keep Kc118 nin0
          have K49 := K9.trans Kc118 all0
          show Goes p e below QQ (T45.setTop (mkF m 121 #[.val (.long p1), .second, .val (.long p2), .second, iv p3, .val (.long (if (p3 &&& (1 : Int32)) = (0 : Int32) then (p1 ^^^ p2) else p1)), .second, iv (((p3.toUInt32 >>> ((1 : Int32) &&& 31).toUInt32).toInt32) &&& (3 : Int32)), rv b2, .unset, .unset] [(.ref bL)]))
          refine Goes.on (fun t k => XS.astore X45.here hx rfl (hb hby at_121) rfl rfl (l' := #[.val (.long p1), .second, .val (.long p2), .second, iv p3, .val (.long (if (p3 &&& (1 : Int32)) = (0 : Int32) then (p1 ^^^ p2) else p1)), .second, iv (((p3.toUInt32 >>> ((1 : Int32) &&& 31).toUInt32).toInt32) &&& (3 : Int32)), rv b2, rv bL, .unset]) rfl k) ?_
          show Goes p e below QQ (T45.setTop (mkF m 123 #[.val (.long p1), .second, .val (.long p2), .second, iv p3, .val (.long (if (p3 &&& (1 : Int32)) = (0 : Int32) then (p1 ^^^ p2) else p1)), .second, iv (((p3.toUInt32 >>> ((1 : Int32) &&& 31).toUInt32).toInt32) &&& (3 : Int32)), rv b2, rv bL, .unset] []))
          refine Goes.on (fun t k => XS.iconst X45.here hx rfl (hb hby at_123) k) ?_
          show Goes p e below QQ (T45.setTop (mkF m 124 #[.val (.long p1), .second, .val (.long p2), .second, iv p3, .val (.long (if (p3 &&& (1 : Int32)) = (0 : Int32) then (p1 ^^^ p2) else p1)), .second, iv (((p3.toUInt32 >>> ((1 : Int32) &&& 31).toUInt32).toInt32) &&& (3 : Int32)), rv b2, rv bL, .unset] [(.int 0)]))
          refine Goes.on (fun t k => XS.istore X45.here hx rfl (hb hby at_124) rfl (l' := #[.val (.long p1), .second, .val (.long p2), .second, iv p3, .val (.long (if (p3 &&& (1 : Int32)) = (0 : Int32) then (p1 ^^^ p2) else p1)), .second, iv (((p3.toUInt32 >>> ((1 : Int32) &&& 31).toUInt32).toInt32) &&& (3 : Int32)), rv b2, rv bL, iv 0]) rfl k) ?_
          show Goes p e below QQ (T45.setTop (mkF m 126 #[.val (.long p1), .second, .val (.long p2), .second, iv p3, .val (.long (if (p3 &&& (1 : Int32)) = (0 : Int32) then (p1 ^^^ p2) else p1)), .second, iv (((p3.toUInt32 >>> ((1 : Int32) &&& 31).toUInt32).toInt32) &&& (3 : Int32)), rv b2, rv bL, iv 0] []))
          refine Goes.on (fun t k => XS.aload X45.here hx rfl (hb hby at_126) rfl rfl k) ?_
          show Goes p e below QQ (T45.setTop (mkF m 128 #[.val (.long p1), .second, .val (.long p2), .second, iv p3, .val (.long (if (p3 &&& (1 : Int32)) = (0 : Int32) then (p1 ^^^ p2) else p1)), .second, iv (((p3.toUInt32 >>> ((1 : Int32) &&& 31).toUInt32).toInt32) &&& (3 : Int32)), rv b2, rv bL, iv 0] [(.ref b2)]))
          refine Goes.on (fun t k => XS.aload X45.here hx rfl (hb hby at_128) rfl rfl k) ?_
          show Goes p e below QQ (T45.setTop (mkF m 130 #[.val (.long p1), .second, .val (.long p2), .second, iv p3, .val (.long (if (p3 &&& (1 : Int32)) = (0 : Int32) then (p1 ^^^ p2) else p1)), .second, iv (((p3.toUInt32 >>> ((1 : Int32) &&& 31).toUInt32).toInt32) &&& (3 : Int32)), rv b2, rv bL, iv 0] [(.ref bL), (.ref b2)]))
          obtain ⟨cq50, kq50, q50a, q50b, q50c⟩ := isOf hZ rfl A2_47
          obtain ⟨_, _, ⟨T50, L50, k50, n50⟩, -, X50, ⟨Lc50, hQ50, l50, y50, z50⟩, st50⟩ := X45.virtualBack hx (y := (⟨"com/example/bindery/bindery/IntegerValue", "equals", "(Ljava/lang/Object;)Z"⟩ : MethodName)) (z := (⟨"com/example/bindery/bindery/IntegerValue", "equals", "(Ljava/lang/Object;)Z"⟩ : MethodName)) hown (mvT hZ (hw _ (List.mem_of_getElem? (i := 16) rfl))) (mvT hZ (hw _ (List.mem_of_getElem? (i := 17) rfl))) (notFace_of_selects (args := #[]) (mvT hZ (hw _ (List.mem_of_getElem? (i := 19) rfl)))) (mvT hZ (hw _ (List.mem_of_getElem? (i := 19) rfl))) (mvT hZ (hw _ (List.mem_of_getElem? (i := 18) rfl))) (by decide) (backOf (W := 0) (rm3d l Z a0 hw [] b2 bL T45.heap n0 (Nat.le_trans Z0 K49.1) E_L) hZ (hw _ (List.mem_of_getElem? (i := 20) rfl)) (hw _ (List.mem_of_getElem? (i := 2) rfl)) (by decide) (by decide)) q50a q50c (g := (mkF m 130 #[.val (.long p1), .second, .val (.long p2), .second, iv p3, .val (.long (if (p3 &&& (1 : Int32)) = (0 : Int32) then (p1 ^^^ p2) else p1)), .second, iv (((p3.toUInt32 >>> ((1 : Int32) &&& 31).toUInt32).toInt32) &&& (3 : Int32)), rv b2, rv bL, iv 0] [(.ref bL), (.ref b2)])) rfl (by rw [hml]; rfl) (Steps.refl _) (argsL := [(.ref bL)]) (rest := []) (lenOf pd_2 rfl) rfl (by show 2 * 0 + _ ≤ _; exact Nat.le_of_eq rfl) (hb hby at_130) (fun _ _ => ⟨rfl, rfl, (by decide : 2 + 0 ≤ _), (by decide : 2 + 0 ≤ _)⟩)
          dsimp only [Pt.U, Pt.locs, Pt.cells, Pt.slots] at X50 l50 y50 z50 st50 hQ50
          subst l50 y50 z50
          obtain ⟨rfl, M50, e50⟩ := hQ50
          have N50 := Fr.app N45 M50
          refine Goes.on (fun t k => st50.trans k) ?_
          show Goes p e below QQ (T50.setTop (mkF m 133 #[.val (.long p1), .second, .val (.long p2), .second, iv p3, .val (.long (if (p3 &&& (1 : Int32)) = (0 : Int32) then (p1 ^^^ p2) else p1)), .second, iv (((p3.toUInt32 >>> ((1 : Int32) &&& 31).toUInt32).toInt32) &&& (3 : Int32)), rv b2, rv bL, iv 0] [(.int 0)]))
          refine Goes.on (fun t k => XS.iload X50.here hx rfl (hb hby at_133) rfl k) ?_
          show Goes p e below QQ (T50.setTop (mkF m 135 #[.val (.long p1), .second, .val (.long p2), .second, iv p3, .val (.long (if (p3 &&& (1 : Int32)) = (0 : Int32) then (p1 ^^^ p2) else p1)), .second, iv (((p3.toUInt32 >>> ((1 : Int32) &&& 31).toUInt32).toInt32) &&& (3 : Int32)), rv b2, rv bL, iv 0] [(.int 0), (.int 0)]))
          refine Goes.on (fun t k => XS.icmpNo X50.here hx rfl (hb hby at_135) rfl (teq (by decide)).2 k) ?_
          show Goes p e below QQ (T50.setTop (mkF m 138 #[.val (.long p1), .second, .val (.long p2), .second, iv p3, .val (.long (if (p3 &&& (1 : Int32)) = (0 : Int32) then (p1 ^^^ p2) else p1)), .second, iv (((p3.toUInt32 >>> ((1 : Int32) &&& 31).toUInt32).toInt32) &&& (3 : Int32)), rv b2, rv bL, iv 0] []))
          refine Goes.on (fun t k => XS.iconst X50.here hx rfl (hb hby at_138) k) ?_
          show Goes p e below QQ (T50.setTop (mkF m 139 #[.val (.long p1), .second, .val (.long p2), .second, iv p3, .val (.long (if (p3 &&& (1 : Int32)) = (0 : Int32) then (p1 ^^^ p2) else p1)), .second, iv (((p3.toUInt32 >>> ((1 : Int32) &&& 31).toUInt32).toInt32) &&& (3 : Int32)), rv b2, rv bL, iv 0] [(.int 1)]))
          refine Goes.on (fun t k => XS.goto X50.here hx rfl (pc0 := 139) (pc' := 143) rfl (hb hby at_139) (by decide) (by decide) k) ?_
          show Goes p e below QQ (T50.setTop (mkF m 143 #[.val (.long p1), .second, .val (.long p2), .second, iv p3, .val (.long (if (p3 &&& (1 : Int32)) = (0 : Int32) then (p1 ^^^ p2) else p1)), .second, iv (((p3.toUInt32 >>> ((1 : Int32) &&& 31).toUInt32).toInt32) &&& (3 : Int32)), rv b2, rv bL, iv 0] [(.int 1)]))
          exact Goes.rN X50 hx (t := .boolean) hret (by simp) hlk (hb hby at_143) hQQ ⟨rfl, N50⟩ (by decide) (by decide)
  show Goes p e below QQ (s₁.setTop (mkF m 4 #[.val (.long p1), .second, .val (.long p2), .second, iv p3, .unset, .unset, .unset, .unset, .unset, .unset] [(.int (p3 &&& (1 : Int32)))]))
  by_cases hb51 : (p3 &&& (1 : Int32)) = (0 : Int32)
  · refine Goes.on (fun t k => XS.ifYes X0.here hx rfl (pc0 := 4) (pc' := 11) rfl (hb hby at_4) rfl ((if0 _ _).trans (teq hb51).1) (by decide) (by decide) k) ?_
    show Goes p e below QQ (s₁.setTop (mkF m 11 #[.val (.long p1), .second, .val (.long p2), .second, iv p3, .unset, .unset, .unset, .unset, .unset, .unset] []))
    refine Goes.on (fun t k => XS.lloadN X0.here hx rfl (hb hby at_11) rfl k) ?_
    show Goes p e below QQ (s₁.setTop (mkF m 12 #[.val (.long p1), .second, .val (.long p2), .second, iv p3, .unset, .unset, .unset, .unset, .unset, .unset] [(.long p1)]))
    refine Goes.on (fun t k => XS.lloadN X0.here hx rfl (hb hby at_12) rfl k) ?_
    show Goes p e below QQ (s₁.setTop (mkF m 13 #[.val (.long p1), .second, .val (.long p2), .second, iv p3, .unset, .unset, .unset, .unset, .unset, .unset] [(.long p2), (.long p1)]))
    refine Goes.on (fun t k => XS.lxor X0.here hx rfl (hb hby at_13) rfl k) ?_
    show Goes p e below QQ (s₁.setTop (mkF m 14 #[.val (.long p1), .second, .val (.long p2), .second, iv p3, .unset, .unset, .unset, .unset, .unset, .unset] [(.long (p1 ^^^ p2))]))
    rw [(((if_pos hb51).trans rfl) : (if (p3 &&& (1 : Int32)) = (0 : Int32) then (p1 ^^^ p2) else p1) = (p1 ^^^ p2))] at J1
    exact J1 _ _ X0 e0 N0
  · refine Goes.on (fun t k => XS.ifNo X0.here hx rfl (hb hby at_4) rfl ((if0 _ _).trans (feq hb51).1) k) ?_
    show Goes p e below QQ (s₁.setTop (mkF m 7 #[.val (.long p1), .second, .val (.long p2), .second, iv p3, .unset, .unset, .unset, .unset, .unset, .unset] []))
    refine Goes.on (fun t k => XS.lloadN X0.here hx rfl (hb hby at_7) rfl k) ?_
    show Goes p e below QQ (s₁.setTop (mkF m 8 #[.val (.long p1), .second, .val (.long p2), .second, iv p3, .unset, .unset, .unset, .unset, .unset, .unset] [(.long p1)]))
    refine Goes.on (fun t k => XS.goto X0.here hx rfl (pc0 := 8) (pc' := 14) rfl (hb hby at_8) (by decide) (by decide) k) ?_
    show Goes p e below QQ (s₁.setTop (mkF m 14 #[.val (.long p1), .second, .val (.long p2), .second, iv p3, .unset, .unset, .unset, .unset, .unset, .unset] [(.long p1)]))
    rw [(((if_neg hb51).trans rfl) : (if (p3 &&& (1 : Int32)) = (0 : Int32) then (p1 ^^^ p2) else p1) = p1)] at J1
    exact J1 _ _ X0 e0 N0
set_option maxRecDepth 65536 in
set_option maxHeartbeats 40000000 in
theorem comes_1 {Post : Tables → Env → Array Value → State → Outcome → State → Prop} (hpost : ∀ tb e args s v u, (limb_1_1.after args s (.returned v) u = true ∧ limb_1_2.after args s (.returned v) u = true ∧ True) → FrameEnd s (.returned v) u (Jvm.fieldLocs frame_1_writes args s ++ Jvm.arrayLocs frame_1_arrays args s ++ Jvm.staticLocs frame_1_statics s) 16 128 → Post tb e args s (.returned v) u) :
    ArmFor flags0 classFile x code maxLocals ret World_1 tables_1 room_1 Calls_1 rest_1 Pre_1 Post := by
  intro l hfl _ _ p e ha hc hk s m args below hf hA hF happ hP
  obtain ⟨hcalls, hrest, hpre⟩ := hP
  obtain ⟨-, -, -, hnamed, -, -, -, hat⟩ := (Spec.applies_iff hf).mp happ
  obtain ⟨hg, hn⟩ := and_e (Cond.before_iff.mp (show (Jvm.Cond.and given_1 narrow_1).before args s = true from hpre))
  obtain ⟨hg0, hg1⟩ := and_e hg
  obtain ⟨ga1, hg2⟩ := and_e hg1
  obtain ⟨ga2, hg3⟩ := and_e hg2
  obtain ⟨w0, w1, w2, rfl⟩ : ∃ w0 w1 w2 : Value, args = #[w0, w1, w2] := by
    have hs : args.size = 3 := by simpa [Cond.value, given_1] using hg0
    obtain ⟨L⟩ := args
    match L, hs with
    | [w0, w1, w2], _ => exact ⟨w0, w1, w2, rfl⟩
  have hw := fun d (hd : d ∈ tables_1) => atoms_spec (ws := Jvm.Cond.code x code maxLocals ret :: tables_1) hat d (List.mem_cons_of_mem _ hd)
  have hfit : Fit s := fun {y c} hc i hi => by
    obtain ⟨ha, rfl⟩ := Array.getElem?_eq_some_iff.mp hc
    have q := List.all_eq_true.mp ((Array.all_eq_true_iff_forall_mem.mp hF) _ (Array.getElem_mem ha)) i (List.mem_range.mpr hi)
    simpa [Array.getElem?_eq_getElem hi] using q
  obtain ⟨hsets, hown0⟩ := atoms_of _ (rest_1_c_eq ▸ (show rest_1_c.before _ s = true from hrest))
  obtain ⟨i0, ei0⟩ := isL_v ga1
  obtain rfl : w0 = (.long i0) := Option.some.inj ei0
  obtain ⟨i1, ei1⟩ := isL_v ga2
  obtain rfl : w1 = (.long i1) := Option.some.inj ei1
  obtain ⟨i2, ei2⟩ := is_v hg3
  obtain rfl : w2 = (.int i2) := Option.some.inj ei2
  obtain ⟨xC, evC⟩ := exa_v (Cond.before_iff.mp (hsets _ (List.mem_of_getElem? (i := 3) rfl)))
  have ST_C : Sta s s.heap "java/lang/Long$LongCache" "cache" "[Ljava/lang/Long;" (.ref xC) := Sta.start evC (Or.inl (hsets _ (List.mem_of_getElem? (i := 1) rfl)))
  obtain ⟨cc, A_c⟩ := Arr.start evC (Cond.before_iff.mp (hsets _ (List.mem_of_getElem? (i := 2) rfl)))
  have sz_c : cc.slots.size = 256 := own_len 256 (by decide) evC A_c (Cond.before_iff.mp (hsets _ (List.mem_of_getElem? (i := 4) rfl)))
  have El : Els s cc := own_els (fun _ => evC) A_c sz_c (Cond.before_iff.mp (hsets _ (List.mem_of_getElem? (i := 5) rfl)))
  obtain ⟨n, o, h1, h2, h3, _, L, rfl, ⟨rfl, N⟩, hq⟩ := rm0 l s _ hw tables_1 i0 i1 i2 xC cc s.heap s.heap.size (Nat.le_refl _) ST_C (Old.start s) A_c sz_c El p e ha hc hk s m _ below hf ((Spec.applies_iff_loose hf).mp happ).1 ⟨rfl, State.Warmed39.refl s, rfl⟩ trivial
  refine ⟨n, _, h1, h2, h3, hpost _ _ _ _ _ _ ⟨Cond.after_iff.mpr rfl, Cond.after_iff.mpr (eq_i res_at (Term.int_eval (1)) rfl), trivial⟩ ⟨hq.1, hq.2.1, (hq.2.2.sift fun y hy => Or.inr (N y hy)).mono (by decide) (by decide)⟩⟩
theorem main_1_1 : Claimed_1_1 := comes_1 fun _ _ _ _ _ _ h hF => ⟨h.1, hF⟩
theorem main_1_2 : Claimed_1_2 := comes_1 fun _ _ _ _ _ _ h hF => ⟨h.2.1, hF⟩
end Jvm.Pilot.@@N@@
namespace Jvm.Pilot.@@N@@
open Jvm Jvm.ClassFile Sem Op Lib Jvm.Free Jvm.Stand Jvm.Pilot.@@N@@.Jvm.D
/-! MADE BY PROGRAM (witnessworld.py) out of the Statement's table words and the real class files: 19 classes; the members and pool entries that the words name. The judged class is class 1, her method 1. -/
namespace start1
open Jvm.ClassFile
def u (s : String) : CpInfo := .utf8 (stringToUtf16 s)
/-- a pool by its gaps: so many unusable entries, then the entry; so many at the end -/
def gap : Nat → List CpInfo → List CpInfo
  | 0, r => r
  | n + 1, r => .unusable :: gap n r
def poolList (es : List (Nat × CpInfo)) (last : Nat) : List CpInfo := es.foldr (fun e r => gap e.1 (e.2 :: r)) (gap last [])
def pool (es : List (Nat × CpInfo)) (last : Nat) : Array CpInfo := ⟨poolList es last⟩
def fileOf (pool : Array CpInfo) (this : Nat) (attrs : Array Attribute := #[]) (ms : Array MethodInfo := #[]) (fl : Nat := 33) (sup : Nat := 0) (ifs : Array Nat := #[]) (fds : Array FieldInfo := #[]) : ClassFile where
  minorVersion := 0
  majorVersion := 65
  constantPool := pool
  accessFlags := fl
  thisClass := this
  superClass := sup
  interfaces := ifs
  fields := fds
  methods := ms
  attributes := attrs
def plain (name : String) (sup : Option ClassId) : Class where
  name := name
  kind := .ordinary
  loader := none
  accessFlags := 33
  super := sup
  interfaces := #[]
  cf := none
  fields := #[]
  methods := #[]
  instanceTypes := #[]
  staticTypes := #[]
  resolved := #[]
  callSites := []
  init := .initialized
  statics := none
  mirror := none

def pool0 : Array CpInfo := pool [(5, u "<init>"), (0, u "()V"), (1, .class_ 10), (1, u "java/lang/Object")] 113

def k0c0 : Code := { maxStack := 0, maxLocals := 1, code := object_method_1_code, exceptionTable := #[], attributes := #[] }
def k0m0 : Method := { name := "<init>", desc := "()V", sig := { parameters := [], returnType := none }, accessFlags := 1, code := some k0c0 }
/-- java/lang/Object -/
def k0 : Class := { plain "java/lang/Object" none with
  accessFlags := 33
  interfaces := #[]
  cf := some (fileOf pool0 8 #[] #[{ accessFlags := 1, nameIndex := 5, descriptorIndex := 6, attributes := #[] }] 33 0 #[] #[])
  fields := #[]
  methods := #[k0m0]
  instanceTypes := #[]
  staticTypes := #[]
  resolved := Array.replicate 124 none
  statics := none }

def pool1 : Array CpInfo := pool [(2, .class_ 4), (1, u "java/lang/Object"), (0, u "<init>"), (0, u "()V"), (0, .class_ 8), (0, u "com/example/bindery/bindery/IntegerValue"), (0, .methodref 7 10), (0, .nameAndType 5 11), (0, u "(J)V"), (0, .class_ 13), (0, u "com/example/bindery/bindery/BooleanValue"), (0, .methodref 12 15), (0, .nameAndType 5 16), (0, u "(Z)V"), (0, .methodref 18 19), (0, .class_ 20), (0, .nameAndType 21 22), (0, u "java/lang/Long"), (0, u "valueOf"), (0, u "(J)Ljava/lang/Long;"), (0, .methodref 7 24), (0, .nameAndType 25 26), (0, u "equals"), (0, u "(Ljava/lang/Object;)Z"), (0, .class_ 28), (0, u "com/example/bindery/bindery/IntegerValueEqualsPinLaw"), (2, u "law"), (0, u "(JJI)Z")] 3

def k1m0 : Method := { name := "<init>", desc := "()V", sig := { parameters := [], returnType := none }, accessFlags := 1, code := none }
def k1c1 : Code := { maxStack := 6, maxLocals := 11, code := code, exceptionTable := #[], attributes := #[] }
def k1m1 : Method := { name := "law", desc := "(JJI)Z", sig := { parameters := [.long, .long, .int], returnType := some .boolean }, accessFlags := 9, code := some k1c1 }
/-- com/example/bindery/bindery/IntegerValueEqualsPinLaw -/
def k1 : Class := { plain "com/example/bindery/bindery/IntegerValueEqualsPinLaw" (some 0) with
  accessFlags := 49
  interfaces := #[]
  cf := some (fileOf pool1 27 #[] #[{ accessFlags := 1, nameIndex := 5, descriptorIndex := 6, attributes := #[] }, { accessFlags := 9, nameIndex := 31, descriptorIndex := 32, attributes := #[] }] 49 2 #[] #[])
  fields := #[]
  methods := #[k1m0, k1m1]
  instanceTypes := #[]
  staticTypes := #[]
  resolved := Array.replicate 36 none
  statics := none }

def pool2 : Array CpInfo := pool [(1, .methodref 2 3), (0, .class_ 4), (0, .nameAndType 5 6), (0, u "java/lang/Object"), (0, u "<init>"), (0, u "()V"), (0, .class_ 8), (0, u "java/lang/Record")] 13

def k2c0 : Code := { maxStack := 1, maxLocals := 1, code := jdk_30_method_1_code, exceptionTable := #[], attributes := #[] }
def k2m0 : Method := { name := "<init>", desc := "()V", sig := { parameters := [], returnType := none }, accessFlags := 4, code := some k2c0 }
/-- java/lang/Record -/
def k2 : Class := { plain "java/lang/Record" (some 0) with
  accessFlags := 1057
  interfaces := #[]
  cf := some (fileOf pool2 7 #[] #[{ accessFlags := 4, nameIndex := 5, descriptorIndex := 6, attributes := #[] }] 1057 2 #[] #[])
  fields := #[]
  methods := #[k2m0]
  instanceTypes := #[]
  staticTypes := #[]
  resolved := Array.replicate 22 none
  statics := none }

def pool3 : Array CpInfo := pool [(18, u "NULL"), (0, u "Lcom/example/bindery/bindery/NullValue;"), (1, .class_ 22), (0, u "com/example/bindery/bindery/Value"), (0, .class_ 24), (0, u "java/lang/Object")] 34

/-- com/example/bindery/bindery/Value -/
def k3 : Class := { plain "com/example/bindery/bindery/Value" (some 0) with
  accessFlags := 1537
  interfaces := #[]
  cf := some (fileOf pool3 21 #[] #[] 1537 23 #[] #[{ accessFlags := 25, nameIndex := 18, descriptorIndex := 19, attributes := #[] }])
  fields := #[{ name := "NULL", type := (.object "com/example/bindery/bindery/NullValue"), accessFlags := 25, slot := 0, constantValue := 0 }]
  methods := #[]
  instanceTypes := #[]
  staticTypes := #[(.object "com/example/bindery/bindery/NullValue")]
  resolved := Array.replicate 59 none
  statics := none }

def pool4 : Array CpInfo := pool [(1, .methodref 2 3), (0, .class_ 4), (0, .nameAndType 5 6), (0, u "java/lang/Record"), (0, u "<init>"), (0, u "()V"), (0, .fieldref 8 9), (0, .class_ 10), (0, .nameAndType 11 12), (0, u "com/example/bindery/bindery/IntegerValue"), (0, u "value"), (0, u "J"), (2, u "SMALL"), (0, u "[Lcom/example/bindery/bindery/IntegerValue;"), (2, u "(J)V"), (12, .class_ 33), (0, u "com/example/bindery/bindery/Value"), (8, u "equals"), (0, u "(Ljava/lang/Object;)Z")] 22

def k4c0 : Code := { maxStack := 3, maxLocals := 3, code := prog_129_method_1_code, exceptionTable := #[], attributes := #[] }
def k4m0 : Method := { name := "<init>", desc := "(J)V", sig := { parameters := [.long], returnType := none }, accessFlags := 1, code := some k4c0 }
def k4c1 : Code := { maxStack := 4, maxLocals := 3, code := prog_129_method_4_code, exceptionTable := #[], attributes := #[] }
def k4m1 : Method := { name := "equals", desc := "(Ljava/lang/Object;)Z", sig := { parameters := [(.object "java/lang/Object")], returnType := some .boolean }, accessFlags := 1, code := some k4c1 }
/-- com/example/bindery/bindery/IntegerValue -/
def k4 : Class := { plain "com/example/bindery/bindery/IntegerValue" (some 2) with
  accessFlags := 49
  interfaces := #[3]
  cf := some (fileOf pool4 8 #[] #[{ accessFlags := 1, nameIndex := 5, descriptorIndex := 19, attributes := #[] }, { accessFlags := 1, nameIndex := 42, descriptorIndex := 43, attributes := #[] }] 49 2 #[32] #[{ accessFlags := 18, nameIndex := 11, descriptorIndex := 12, attributes := #[] }, { accessFlags := 26, nameIndex := 15, descriptorIndex := 16, attributes := #[] }])
  fields := #[{ name := "value", type := .long, accessFlags := 18, slot := 0, constantValue := 0 }, { name := "SMALL", type := (.array (.object "com/example/bindery/bindery/IntegerValue")), accessFlags := 26, slot := 0, constantValue := 0 }]
  methods := #[k4m0, k4m1]
  instanceTypes := #[.long]
  staticTypes := #[(.array (.object "com/example/bindery/bindery/IntegerValue"))]
  resolved := Array.replicate 66 none
  statics := none }

def pool5 : Array CpInfo := pool [(1, .class_ 2), (0, u "java/io/Serializable"), (0, .class_ 4), (0, u "java/lang/Object")] 2

/-- java/io/Serializable -/
def k5 : Class := { plain "java/io/Serializable" (some 0) with
  accessFlags := 1537
  interfaces := #[]
  cf := some (fileOf pool5 1 #[] #[] 1537 3 #[] #[])
  fields := #[]
  methods := #[]
  instanceTypes := #[]
  staticTypes := #[]
  resolved := Array.replicate 7 none
  statics := none }

def pool6 : Array CpInfo := pool [(1, .methodref 2 3), (0, .class_ 4), (0, .nameAndType 5 6), (0, u "java/lang/Object"), (0, u "<init>"), (0, u "()V"), (1, .class_ 10), (1, u "java/lang/Number"), (2, .class_ 14), (0, u "java/io/Serializable"), (0, u "serialVersionUID"), (0, u "J")] 20

def k6c0 : Code := { maxStack := 1, maxLocals := 1, code := jdk_18_method_1_code, exceptionTable := #[], attributes := #[] }
def k6m0 : Method := { name := "<init>", desc := "()V", sig := { parameters := [], returnType := none }, accessFlags := 1, code := some k6c0 }
/-- java/lang/Number -/
def k6 : Class := { plain "java/lang/Number" (some 0) with
  accessFlags := 1057
  interfaces := #[5]
  cf := some (fileOf pool6 8 #[] #[{ accessFlags := 1, nameIndex := 5, descriptorIndex := 6, attributes := #[] }] 1057 2 #[13] #[{ accessFlags := 26, nameIndex := 15, descriptorIndex := 16, attributes := #[] }])
  fields := #[{ name := "serialVersionUID", type := .long, accessFlags := 26, slot := 0, constantValue := 0 }]
  methods := #[k6m0]
  instanceTypes := #[]
  staticTypes := #[.long]
  resolved := Array.replicate 37 none
  statics := none }

def pool7 : Array CpInfo := pool [(1, .class_ 2), (0, u "java/lang/Comparable"), (0, .class_ 4), (0, u "java/lang/Object")] 7

/-- java/lang/Comparable -/
def k7 : Class := { plain "java/lang/Comparable" (some 0) with
  accessFlags := 1537
  interfaces := #[]
  cf := some (fileOf pool7 1 #[] #[] 1537 3 #[] #[])
  fields := #[]
  methods := #[]
  instanceTypes := #[]
  staticTypes := #[]
  resolved := Array.replicate 12 none
  statics := none }

def pool8 : Array CpInfo := pool [(1, .class_ 2), (0, u "java/lang/constant/Constable"), (0, .class_ 4), (0, u "java/lang/Object")] 6

/-- java/lang/constant/Constable -/
def k8 : Class := { plain "java/lang/constant/Constable" (some 0) with
  accessFlags := 1537
  interfaces := #[]
  cf := some (fileOf pool8 1 #[] #[] 1537 3 #[] #[])
  fields := #[]
  methods := #[]
  instanceTypes := #[]
  staticTypes := #[]
  resolved := Array.replicate 11 none
  statics := none }

def pool9 : Array CpInfo := pool [(1, .class_ 2), (0, u "java/lang/constant/ConstantDesc"), (0, .class_ 4), (0, u "java/lang/Object")] 32

/-- java/lang/constant/ConstantDesc -/
def k9 : Class := { plain "java/lang/constant/ConstantDesc" (some 0) with
  accessFlags := 1537
  interfaces := #[]
  cf := some (fileOf pool9 1 #[] #[] 1537 3 #[] #[])
  fields := #[]
  methods := #[]
  instanceTypes := #[]
  staticTypes := #[]
  resolved := Array.replicate 37 none
  statics := none }

def pool10 : Array CpInfo := pool [(1, .class_ 2), (0, u "java/lang/Long"), (55, .nameAndType 59 60), (0, u "<init>"), (0, u "()V"), (24, u "valueOf"), (143, u "(J)Ljava/lang/Long;"), (0, .long 18446744073709551488), (1, .long 127), (1, .fieldref 235 236), (0, .class_ 237), (0, .nameAndType 238 239), (0, u "java/lang/Long$LongCache"), (0, u "cache"), (0, u "[Ljava/lang/Long;"), (0, .methodref 1 241), (0, .nameAndType 59 242), (0, u "(J)V"), (27, .methodref 271 58), (0, .class_ 272), (0, u "java/lang/Number"), (0, .fieldref 1 274), (0, .nameAndType 275 276), (0, u "value"), (0, u "J"), (84, u "TYPE"), (0, u "Ljava/lang/Class;"), (0, .class_ 364), (0, u "java/lang/Comparable"), (0, .class_ 366), (0, u "java/lang/constant/Constable"), (0, .class_ 368), (0, u "java/lang/constant/ConstantDesc"), (0, u "MIN_VALUE"), (1, u "MAX_VALUE"), (4, u "SIZE"), (0, u "I"), (1, u "BYTES"), (1, u "serialVersionUID")] 142

def k10c0 : Code := { maxStack := 4, maxLocals := 3, code := jdk_35_method_24_code, exceptionTable := #[], attributes := #[] }
def k10m0 : Method := { name := "valueOf", desc := "(J)Ljava/lang/Long;", sig := { parameters := [.long], returnType := some (.object "java/lang/Long") }, accessFlags := 9, code := some k10c0 }
def k10c1 : Code := { maxStack := 3, maxLocals := 3, code := jdk_35_method_26_code, exceptionTable := #[], attributes := #[] }
def k10m1 : Method := { name := "<init>", desc := "(J)V", sig := { parameters := [.long], returnType := none }, accessFlags := 1, code := some k10c1 }
/-- java/lang/Long -/
def k10 : Class := { plain "java/lang/Long" (some 6) with
  accessFlags := 49
  interfaces := #[7, 8, 9]
  cf := some (fileOf pool10 1 #[.nestMembers #[235]] #[{ accessFlags := 9, nameIndex := 85, descriptorIndex := 229, attributes := #[] }, { accessFlags := 1, nameIndex := 59, descriptorIndex := 242, attributes := #[] }] 49 271 #[363, 365, 367] #[{ accessFlags := 25, nameIndex := 369, descriptorIndex := 276, attributes := #[] }, { accessFlags := 25, nameIndex := 371, descriptorIndex := 276, attributes := #[] }, { accessFlags := 25, nameIndex := 361, descriptorIndex := 362, attributes := #[] }, { accessFlags := 18, nameIndex := 275, descriptorIndex := 276, attributes := #[] }, { accessFlags := 25, nameIndex := 376, descriptorIndex := 377, attributes := #[] }, { accessFlags := 25, nameIndex := 379, descriptorIndex := 377, attributes := #[] }, { accessFlags := 26, nameIndex := 381, descriptorIndex := 276, attributes := #[] }])
  fields := #[{ name := "MIN_VALUE", type := .long, accessFlags := 25, slot := 0, constantValue := 0 }, { name := "MAX_VALUE", type := .long, accessFlags := 25, slot := 1, constantValue := 0 }, { name := "TYPE", type := (.object "java/lang/Class"), accessFlags := 25, slot := 2, constantValue := 0 }, { name := "value", type := .long, accessFlags := 18, slot := 0, constantValue := 0 }, { name := "SIZE", type := .int, accessFlags := 25, slot := 3, constantValue := 0 }, { name := "BYTES", type := .int, accessFlags := 25, slot := 4, constantValue := 0 }, { name := "serialVersionUID", type := .long, accessFlags := 26, slot := 5, constantValue := 0 }]
  methods := #[k10m0, k10m1]
  instanceTypes := #[.long]
  staticTypes := #[.long, .long, (.object "java/lang/Class"), .int, .int, .long]
  resolved := Array.replicate 524 none
  statics := none }

def pool11 : Array CpInfo := pool [(2, .class_ 4), (1, u "java/lang/Object"), (0, u "<init>"), (0, u "()V"), (0, .class_ 8), (0, u "java/lang/Long"), (7, .class_ 18), (1, u "java/lang/Long$LongCache"), (0, u "$assertionsDisabled"), (0, u "Z"), (8, u "archivedCache"), (0, u "[Ljava/lang/Long;"), (7, u "cache")] 24

def k11m0 : Method := { name := "<init>", desc := "()V", sig := { parameters := [], returnType := none }, accessFlags := 2, code := none }
/-- java/lang/Long$LongCache -/
def k11 : Class := { plain "java/lang/Long$LongCache" (some 0) with
  accessFlags := 48
  interfaces := #[]
  cf := some (fileOf pool11 16 #[.nestHost 7] #[{ accessFlags := 2, nameIndex := 5, descriptorIndex := 6, attributes := #[] }] 48 2 #[] #[{ accessFlags := 24, nameIndex := 38, descriptorIndex := 30, attributes := #[] }, { accessFlags := 8, nameIndex := 29, descriptorIndex := 30, attributes := #[] }, { accessFlags := 4120, nameIndex := 19, descriptorIndex := 20, attributes := #[] }])
  fields := #[{ name := "cache", type := (.array (.object "java/lang/Long")), accessFlags := 24, slot := 0, constantValue := 0 }, { name := "archivedCache", type := (.array (.object "java/lang/Long")), accessFlags := 8, slot := 1, constantValue := 0 }, { name := "$assertionsDisabled", type := .boolean, accessFlags := 4120, slot := 2, constantValue := 0 }]
  methods := #[k11m0]
  instanceTypes := #[]
  staticTypes := #[(.array (.object "java/lang/Long")), (.array (.object "java/lang/Long")), .boolean]
  resolved := Array.replicate 63 none
  statics := some 0 }

def pool12 : Array CpInfo := pool [(1, .methodref 2 3), (0, .class_ 4), (0, .nameAndType 5 6), (0, u "java/lang/Record"), (0, u "<init>"), (0, u "()V"), (0, .fieldref 8 9), (0, .class_ 10), (0, .nameAndType 11 12), (0, u "com/example/bindery/bindery/BooleanValue"), (0, u "value"), (0, u "Z"), (2, u "TRUE"), (0, u "Lcom/example/bindery/bindery/BooleanValue;"), (2, u "FALSE"), (14, u "(Z)V"), (0, .class_ 36), (0, u "com/example/bindery/bindery/Value")] 32

def k12c0 : Code := { maxStack := 2, maxLocals := 2, code := prog_14_method_1_code, exceptionTable := #[], attributes := #[] }
def k12m0 : Method := { name := "<init>", desc := "(Z)V", sig := { parameters := [.boolean], returnType := none }, accessFlags := 1, code := some k12c0 }
/-- com/example/bindery/bindery/BooleanValue -/
def k12 : Class := { plain "com/example/bindery/bindery/BooleanValue" (some 2) with
  accessFlags := 49
  interfaces := #[3]
  cf := some (fileOf pool12 8 #[] #[{ accessFlags := 1, nameIndex := 5, descriptorIndex := 34, attributes := #[] }] 49 2 #[35] #[{ accessFlags := 18, nameIndex := 11, descriptorIndex := 12, attributes := #[] }, { accessFlags := 26, nameIndex := 15, descriptorIndex := 16, attributes := #[] }, { accessFlags := 26, nameIndex := 19, descriptorIndex := 16, attributes := #[] }])
  fields := #[{ name := "value", type := .boolean, accessFlags := 18, slot := 0, constantValue := 0 }, { name := "TRUE", type := (.object "com/example/bindery/bindery/BooleanValue"), accessFlags := 26, slot := 0, constantValue := 0 }, { name := "FALSE", type := (.object "com/example/bindery/bindery/BooleanValue"), accessFlags := 26, slot := 1, constantValue := 0 }]
  methods := #[k12m0]
  instanceTypes := #[.boolean]
  staticTypes := #[(.object "com/example/bindery/bindery/BooleanValue"), (.object "com/example/bindery/bindery/BooleanValue")]
  resolved := Array.replicate 69 none
  statics := none }

def pool13 : Array CpInfo := pool [(1, u "java/lang/Cloneable"), (0, .class_ 1), (0, u "java/lang/Object"), (0, .class_ 3)] 3

/-- java/lang/Cloneable -/
def k13 : Class := { plain "java/lang/Cloneable" (some 0) with
  accessFlags := 1537
  interfaces := #[]
  cf := some (fileOf pool13 2 #[] #[] 1537 4 #[] #[])
  fields := #[]
  methods := #[]
  instanceTypes := #[]
  staticTypes := #[]
  resolved := Array.replicate 8 none
  statics := none }

/-- the primitive byte -/
def k14 : Class := { plain "byte" none with kind := .primitive 'B', accessFlags := 0x411 }
/-- [B -/
def k15 : Class := { plain "[B" (some 0) with kind := .array 14 .byte, interfaces := #[13, 5], accessFlags := 1041 }

/-- the primitive int -/
def k16 : Class := { plain "int" none with kind := .primitive 'I', accessFlags := 0x411 }
/-- [I -/
def k17 : Class := { plain "[I" (some 0) with kind := .array 16 .int, interfaces := #[13, 5], accessFlags := 1041 }

/-- [Ljava/lang/Long; -/
def k18 : Class := { plain "[Ljava/lang/Long;" (some 0) with kind := .array 10 (.object "java/lang/Long"), interfaces := #[13, 5], accessFlags := 1041 }

def heap : Heap := #[{ cls := 11, slots := #[.ref 1, .null, .int 0], vm := .statics 11 },
  { cls := 18, slots := #[.ref 2, .ref 3, .ref 4, .ref 5, .ref 6, .ref 7, .ref 8, .ref 9, .ref 10, .ref 11, .ref 12, .ref 13, .ref 14, .ref 15, .ref 16, .ref 17, .ref 18, .ref 19, .ref 20, .ref 21, .ref 22, .ref 23, .ref 24, .ref 25, .ref 26, .ref 27, .ref 28, .ref 29, .ref 30, .ref 31, .ref 32, .ref 33, .ref 34, .ref 35, .ref 36, .ref 37, .ref 38, .ref 39, .ref 40, .ref 41, .ref 42, .ref 43, .ref 44, .ref 45, .ref 46, .ref 47, .ref 48, .ref 49, .ref 50, .ref 51, .ref 52, .ref 53, .ref 54, .ref 55, .ref 56, .ref 57, .ref 58, .ref 59, .ref 60, .ref 61, .ref 62, .ref 63, .ref 64, .ref 65, .ref 66, .ref 67, .ref 68, .ref 69, .ref 70, .ref 71, .ref 72, .ref 73, .ref 74, .ref 75, .ref 76, .ref 77, .ref 78, .ref 79, .ref 80, .ref 81, .ref 82, .ref 83, .ref 84, .ref 85, .ref 86, .ref 87, .ref 88, .ref 89, .ref 90, .ref 91, .ref 92, .ref 93, .ref 94, .ref 95, .ref 96, .ref 97, .ref 98, .ref 99, .ref 100, .ref 101, .ref 102, .ref 103, .ref 104, .ref 105, .ref 106, .ref 107, .ref 108, .ref 109, .ref 110, .ref 111, .ref 112, .ref 113, .ref 114, .ref 115, .ref 116, .ref 117, .ref 118, .ref 119, .ref 120, .ref 121, .ref 122, .ref 123, .ref 124, .ref 125, .ref 126, .ref 127, .ref 128, .ref 129, .ref 130, .ref 131, .ref 132, .ref 133, .ref 134, .ref 135, .ref 136, .ref 137, .ref 138, .ref 139, .ref 140, .ref 141, .ref 142, .ref 143, .ref 144, .ref 145, .ref 146, .ref 147, .ref 148, .ref 149, .ref 150, .ref 151, .ref 152, .ref 153, .ref 154, .ref 155, .ref 156, .ref 157, .ref 158, .ref 159, .ref 160, .ref 161, .ref 162, .ref 163, .ref 164, .ref 165, .ref 166, .ref 167, .ref 168, .ref 169, .ref 170, .ref 171, .ref 172, .ref 173, .ref 174, .ref 175, .ref 176, .ref 177, .ref 178, .ref 179, .ref 180, .ref 181, .ref 182, .ref 183, .ref 184, .ref 185, .ref 186, .ref 187, .ref 188, .ref 189, .ref 190, .ref 191, .ref 192, .ref 193, .ref 194, .ref 195, .ref 196, .ref 197, .ref 198, .ref 199, .ref 200, .ref 201, .ref 202, .ref 203, .ref 204, .ref 205, .ref 206, .ref 207, .ref 208, .ref 209, .ref 210, .ref 211, .ref 212, .ref 213, .ref 214, .ref 215, .ref 216, .ref 217, .ref 218, .ref 219, .ref 220, .ref 221, .ref 222, .ref 223, .ref 224, .ref 225, .ref 226, .ref 227, .ref 228, .ref 229, .ref 230, .ref 231, .ref 232, .ref 233, .ref 234, .ref 235, .ref 236, .ref 237, .ref 238, .ref 239, .ref 240, .ref 241, .ref 242, .ref 243, .ref 244, .ref 245, .ref 246, .ref 247, .ref 248, .ref 249, .ref 250, .ref 251, .ref 252, .ref 253, .ref 254, .ref 255, .ref 256, .ref 257], vm := .none },
  { cls := 10, slots := #[.long (-128)], vm := .none },
  { cls := 10, slots := #[.long (-127)], vm := .none },
  { cls := 10, slots := #[.long (-126)], vm := .none },
  { cls := 10, slots := #[.long (-125)], vm := .none },
  { cls := 10, slots := #[.long (-124)], vm := .none },
  { cls := 10, slots := #[.long (-123)], vm := .none },
  { cls := 10, slots := #[.long (-122)], vm := .none },
  { cls := 10, slots := #[.long (-121)], vm := .none },
  { cls := 10, slots := #[.long (-120)], vm := .none },
  { cls := 10, slots := #[.long (-119)], vm := .none },
  { cls := 10, slots := #[.long (-118)], vm := .none },
  { cls := 10, slots := #[.long (-117)], vm := .none },
  { cls := 10, slots := #[.long (-116)], vm := .none },
  { cls := 10, slots := #[.long (-115)], vm := .none },
  { cls := 10, slots := #[.long (-114)], vm := .none },
  { cls := 10, slots := #[.long (-113)], vm := .none },
  { cls := 10, slots := #[.long (-112)], vm := .none },
  { cls := 10, slots := #[.long (-111)], vm := .none },
  { cls := 10, slots := #[.long (-110)], vm := .none },
  { cls := 10, slots := #[.long (-109)], vm := .none },
  { cls := 10, slots := #[.long (-108)], vm := .none },
  { cls := 10, slots := #[.long (-107)], vm := .none },
  { cls := 10, slots := #[.long (-106)], vm := .none },
  { cls := 10, slots := #[.long (-105)], vm := .none },
  { cls := 10, slots := #[.long (-104)], vm := .none },
  { cls := 10, slots := #[.long (-103)], vm := .none },
  { cls := 10, slots := #[.long (-102)], vm := .none },
  { cls := 10, slots := #[.long (-101)], vm := .none },
  { cls := 10, slots := #[.long (-100)], vm := .none },
  { cls := 10, slots := #[.long (-99)], vm := .none },
  { cls := 10, slots := #[.long (-98)], vm := .none },
  { cls := 10, slots := #[.long (-97)], vm := .none },
  { cls := 10, slots := #[.long (-96)], vm := .none },
  { cls := 10, slots := #[.long (-95)], vm := .none },
  { cls := 10, slots := #[.long (-94)], vm := .none },
  { cls := 10, slots := #[.long (-93)], vm := .none },
  { cls := 10, slots := #[.long (-92)], vm := .none },
  { cls := 10, slots := #[.long (-91)], vm := .none },
  { cls := 10, slots := #[.long (-90)], vm := .none },
  { cls := 10, slots := #[.long (-89)], vm := .none },
  { cls := 10, slots := #[.long (-88)], vm := .none },
  { cls := 10, slots := #[.long (-87)], vm := .none },
  { cls := 10, slots := #[.long (-86)], vm := .none },
  { cls := 10, slots := #[.long (-85)], vm := .none },
  { cls := 10, slots := #[.long (-84)], vm := .none },
  { cls := 10, slots := #[.long (-83)], vm := .none },
  { cls := 10, slots := #[.long (-82)], vm := .none },
  { cls := 10, slots := #[.long (-81)], vm := .none },
  { cls := 10, slots := #[.long (-80)], vm := .none },
  { cls := 10, slots := #[.long (-79)], vm := .none },
  { cls := 10, slots := #[.long (-78)], vm := .none },
  { cls := 10, slots := #[.long (-77)], vm := .none },
  { cls := 10, slots := #[.long (-76)], vm := .none },
  { cls := 10, slots := #[.long (-75)], vm := .none },
  { cls := 10, slots := #[.long (-74)], vm := .none },
  { cls := 10, slots := #[.long (-73)], vm := .none },
  { cls := 10, slots := #[.long (-72)], vm := .none },
  { cls := 10, slots := #[.long (-71)], vm := .none },
  { cls := 10, slots := #[.long (-70)], vm := .none },
  { cls := 10, slots := #[.long (-69)], vm := .none },
  { cls := 10, slots := #[.long (-68)], vm := .none },
  { cls := 10, slots := #[.long (-67)], vm := .none },
  { cls := 10, slots := #[.long (-66)], vm := .none },
  { cls := 10, slots := #[.long (-65)], vm := .none },
  { cls := 10, slots := #[.long (-64)], vm := .none },
  { cls := 10, slots := #[.long (-63)], vm := .none },
  { cls := 10, slots := #[.long (-62)], vm := .none },
  { cls := 10, slots := #[.long (-61)], vm := .none },
  { cls := 10, slots := #[.long (-60)], vm := .none },
  { cls := 10, slots := #[.long (-59)], vm := .none },
  { cls := 10, slots := #[.long (-58)], vm := .none },
  { cls := 10, slots := #[.long (-57)], vm := .none },
  { cls := 10, slots := #[.long (-56)], vm := .none },
  { cls := 10, slots := #[.long (-55)], vm := .none },
  { cls := 10, slots := #[.long (-54)], vm := .none },
  { cls := 10, slots := #[.long (-53)], vm := .none },
  { cls := 10, slots := #[.long (-52)], vm := .none },
  { cls := 10, slots := #[.long (-51)], vm := .none },
  { cls := 10, slots := #[.long (-50)], vm := .none },
  { cls := 10, slots := #[.long (-49)], vm := .none },
  { cls := 10, slots := #[.long (-48)], vm := .none },
  { cls := 10, slots := #[.long (-47)], vm := .none },
  { cls := 10, slots := #[.long (-46)], vm := .none },
  { cls := 10, slots := #[.long (-45)], vm := .none },
  { cls := 10, slots := #[.long (-44)], vm := .none },
  { cls := 10, slots := #[.long (-43)], vm := .none },
  { cls := 10, slots := #[.long (-42)], vm := .none },
  { cls := 10, slots := #[.long (-41)], vm := .none },
  { cls := 10, slots := #[.long (-40)], vm := .none },
  { cls := 10, slots := #[.long (-39)], vm := .none },
  { cls := 10, slots := #[.long (-38)], vm := .none },
  { cls := 10, slots := #[.long (-37)], vm := .none },
  { cls := 10, slots := #[.long (-36)], vm := .none },
  { cls := 10, slots := #[.long (-35)], vm := .none },
  { cls := 10, slots := #[.long (-34)], vm := .none },
  { cls := 10, slots := #[.long (-33)], vm := .none },
  { cls := 10, slots := #[.long (-32)], vm := .none },
  { cls := 10, slots := #[.long (-31)], vm := .none },
  { cls := 10, slots := #[.long (-30)], vm := .none },
  { cls := 10, slots := #[.long (-29)], vm := .none },
  { cls := 10, slots := #[.long (-28)], vm := .none },
  { cls := 10, slots := #[.long (-27)], vm := .none },
  { cls := 10, slots := #[.long (-26)], vm := .none },
  { cls := 10, slots := #[.long (-25)], vm := .none },
  { cls := 10, slots := #[.long (-24)], vm := .none },
  { cls := 10, slots := #[.long (-23)], vm := .none },
  { cls := 10, slots := #[.long (-22)], vm := .none },
  { cls := 10, slots := #[.long (-21)], vm := .none },
  { cls := 10, slots := #[.long (-20)], vm := .none },
  { cls := 10, slots := #[.long (-19)], vm := .none },
  { cls := 10, slots := #[.long (-18)], vm := .none },
  { cls := 10, slots := #[.long (-17)], vm := .none },
  { cls := 10, slots := #[.long (-16)], vm := .none },
  { cls := 10, slots := #[.long (-15)], vm := .none },
  { cls := 10, slots := #[.long (-14)], vm := .none },
  { cls := 10, slots := #[.long (-13)], vm := .none },
  { cls := 10, slots := #[.long (-12)], vm := .none },
  { cls := 10, slots := #[.long (-11)], vm := .none },
  { cls := 10, slots := #[.long (-10)], vm := .none },
  { cls := 10, slots := #[.long (-9)], vm := .none },
  { cls := 10, slots := #[.long (-8)], vm := .none },
  { cls := 10, slots := #[.long (-7)], vm := .none },
  { cls := 10, slots := #[.long (-6)], vm := .none },
  { cls := 10, slots := #[.long (-5)], vm := .none },
  { cls := 10, slots := #[.long (-4)], vm := .none },
  { cls := 10, slots := #[.long (-3)], vm := .none },
  { cls := 10, slots := #[.long (-2)], vm := .none },
  { cls := 10, slots := #[.long (-1)], vm := .none },
  { cls := 10, slots := #[.long 0], vm := .none },
  { cls := 10, slots := #[.long 1], vm := .none },
  { cls := 10, slots := #[.long 2], vm := .none },
  { cls := 10, slots := #[.long 3], vm := .none },
  { cls := 10, slots := #[.long 4], vm := .none },
  { cls := 10, slots := #[.long 5], vm := .none },
  { cls := 10, slots := #[.long 6], vm := .none },
  { cls := 10, slots := #[.long 7], vm := .none },
  { cls := 10, slots := #[.long 8], vm := .none },
  { cls := 10, slots := #[.long 9], vm := .none },
  { cls := 10, slots := #[.long 10], vm := .none },
  { cls := 10, slots := #[.long 11], vm := .none },
  { cls := 10, slots := #[.long 12], vm := .none },
  { cls := 10, slots := #[.long 13], vm := .none },
  { cls := 10, slots := #[.long 14], vm := .none },
  { cls := 10, slots := #[.long 15], vm := .none },
  { cls := 10, slots := #[.long 16], vm := .none },
  { cls := 10, slots := #[.long 17], vm := .none },
  { cls := 10, slots := #[.long 18], vm := .none },
  { cls := 10, slots := #[.long 19], vm := .none },
  { cls := 10, slots := #[.long 20], vm := .none },
  { cls := 10, slots := #[.long 21], vm := .none },
  { cls := 10, slots := #[.long 22], vm := .none },
  { cls := 10, slots := #[.long 23], vm := .none },
  { cls := 10, slots := #[.long 24], vm := .none },
  { cls := 10, slots := #[.long 25], vm := .none },
  { cls := 10, slots := #[.long 26], vm := .none },
  { cls := 10, slots := #[.long 27], vm := .none },
  { cls := 10, slots := #[.long 28], vm := .none },
  { cls := 10, slots := #[.long 29], vm := .none },
  { cls := 10, slots := #[.long 30], vm := .none },
  { cls := 10, slots := #[.long 31], vm := .none },
  { cls := 10, slots := #[.long 32], vm := .none },
  { cls := 10, slots := #[.long 33], vm := .none },
  { cls := 10, slots := #[.long 34], vm := .none },
  { cls := 10, slots := #[.long 35], vm := .none },
  { cls := 10, slots := #[.long 36], vm := .none },
  { cls := 10, slots := #[.long 37], vm := .none },
  { cls := 10, slots := #[.long 38], vm := .none },
  { cls := 10, slots := #[.long 39], vm := .none },
  { cls := 10, slots := #[.long 40], vm := .none },
  { cls := 10, slots := #[.long 41], vm := .none },
  { cls := 10, slots := #[.long 42], vm := .none },
  { cls := 10, slots := #[.long 43], vm := .none },
  { cls := 10, slots := #[.long 44], vm := .none },
  { cls := 10, slots := #[.long 45], vm := .none },
  { cls := 10, slots := #[.long 46], vm := .none },
  { cls := 10, slots := #[.long 47], vm := .none },
  { cls := 10, slots := #[.long 48], vm := .none },
  { cls := 10, slots := #[.long 49], vm := .none },
  { cls := 10, slots := #[.long 50], vm := .none },
  { cls := 10, slots := #[.long 51], vm := .none },
  { cls := 10, slots := #[.long 52], vm := .none },
  { cls := 10, slots := #[.long 53], vm := .none },
  { cls := 10, slots := #[.long 54], vm := .none },
  { cls := 10, slots := #[.long 55], vm := .none },
  { cls := 10, slots := #[.long 56], vm := .none },
  { cls := 10, slots := #[.long 57], vm := .none },
  { cls := 10, slots := #[.long 58], vm := .none },
  { cls := 10, slots := #[.long 59], vm := .none },
  { cls := 10, slots := #[.long 60], vm := .none },
  { cls := 10, slots := #[.long 61], vm := .none },
  { cls := 10, slots := #[.long 62], vm := .none },
  { cls := 10, slots := #[.long 63], vm := .none },
  { cls := 10, slots := #[.long 64], vm := .none },
  { cls := 10, slots := #[.long 65], vm := .none },
  { cls := 10, slots := #[.long 66], vm := .none },
  { cls := 10, slots := #[.long 67], vm := .none },
  { cls := 10, slots := #[.long 68], vm := .none },
  { cls := 10, slots := #[.long 69], vm := .none },
  { cls := 10, slots := #[.long 70], vm := .none },
  { cls := 10, slots := #[.long 71], vm := .none },
  { cls := 10, slots := #[.long 72], vm := .none },
  { cls := 10, slots := #[.long 73], vm := .none },
  { cls := 10, slots := #[.long 74], vm := .none },
  { cls := 10, slots := #[.long 75], vm := .none },
  { cls := 10, slots := #[.long 76], vm := .none },
  { cls := 10, slots := #[.long 77], vm := .none },
  { cls := 10, slots := #[.long 78], vm := .none },
  { cls := 10, slots := #[.long 79], vm := .none },
  { cls := 10, slots := #[.long 80], vm := .none },
  { cls := 10, slots := #[.long 81], vm := .none },
  { cls := 10, slots := #[.long 82], vm := .none },
  { cls := 10, slots := #[.long 83], vm := .none },
  { cls := 10, slots := #[.long 84], vm := .none },
  { cls := 10, slots := #[.long 85], vm := .none },
  { cls := 10, slots := #[.long 86], vm := .none },
  { cls := 10, slots := #[.long 87], vm := .none },
  { cls := 10, slots := #[.long 88], vm := .none },
  { cls := 10, slots := #[.long 89], vm := .none },
  { cls := 10, slots := #[.long 90], vm := .none },
  { cls := 10, slots := #[.long 91], vm := .none },
  { cls := 10, slots := #[.long 92], vm := .none },
  { cls := 10, slots := #[.long 93], vm := .none },
  { cls := 10, slots := #[.long 94], vm := .none },
  { cls := 10, slots := #[.long 95], vm := .none },
  { cls := 10, slots := #[.long 96], vm := .none },
  { cls := 10, slots := #[.long 97], vm := .none },
  { cls := 10, slots := #[.long 98], vm := .none },
  { cls := 10, slots := #[.long 99], vm := .none },
  { cls := 10, slots := #[.long 100], vm := .none },
  { cls := 10, slots := #[.long 101], vm := .none },
  { cls := 10, slots := #[.long 102], vm := .none },
  { cls := 10, slots := #[.long 103], vm := .none },
  { cls := 10, slots := #[.long 104], vm := .none },
  { cls := 10, slots := #[.long 105], vm := .none },
  { cls := 10, slots := #[.long 106], vm := .none },
  { cls := 10, slots := #[.long 107], vm := .none },
  { cls := 10, slots := #[.long 108], vm := .none },
  { cls := 10, slots := #[.long 109], vm := .none },
  { cls := 10, slots := #[.long 110], vm := .none },
  { cls := 10, slots := #[.long 111], vm := .none },
  { cls := 10, slots := #[.long 112], vm := .none },
  { cls := 10, slots := #[.long 113], vm := .none },
  { cls := 10, slots := #[.long 114], vm := .none },
  { cls := 10, slots := #[.long 115], vm := .none },
  { cls := 10, slots := #[.long 116], vm := .none },
  { cls := 10, slots := #[.long 117], vm := .none },
  { cls := 10, slots := #[.long 118], vm := .none },
  { cls := 10, slots := #[.long 119], vm := .none },
  { cls := 10, slots := #[.long 120], vm := .none },
  { cls := 10, slots := #[.long 121], vm := .none },
  { cls := 10, slots := #[.long 122], vm := .none },
  { cls := 10, slots := #[.long 123], vm := .none },
  { cls := 10, slots := #[.long 124], vm := .none },
  { cls := 10, slots := #[.long 125], vm := .none },
  { cls := 10, slots := #[.long 126], vm := .none },
  { cls := 10, slots := #[.long 127], vm := .none }]
def classes : Array Class := #[k0, k1, k2, k3, k4, k5, k6, k7, k8, k9, k10, k11, k12, k13, k14, k15, k16, k17, k18]
def interned : List (Array UInt16 × Addr) := []
def slotsUsed : Nat := 515
def theMethod : MethodId := ⟨1, 1⟩
def args0 : Array Value := #[.long 5, .long 7, .int 3]
def aboutOver (below : List Frame) : State where
  vm := { classes := classes, interned := interned.toArray }
  heap := heap
  slotsUsed := slotsUsed
  threads := #[{ frames := .invoking theMethod args0 :: below }]
def below0 : List Frame := [.native { method := ⟨0, 0⟩, args := #[] }]
def about1 : State := aboutOver below0
def p0 : Program := .bare "" "" ""
def e0 : Env := launch0.env 0 0 0
theorem w_frames : about1.frames = Frame.invoking theMethod args0 :: below0 := rfl
set_option maxRecDepth 65536 in
theorem w_args : argsFit about1.vm theMethod args0 = true := by decide +kernel
set_option maxRecDepth 65536 in
theorem w_heap : heapFits about1 = true := by decide +kernel
set_option maxRecDepth 65536 in
theorem w_runnable : about1.curStatus? = some .runnable := by decide +kernel
set_option maxRecDepth 65536 in
theorem w_alone : about1.alone = true := by decide +kernel
set_option maxRecDepth 65536 in
theorem w_named : about1.methodNamed? x = some theMethod := by decide +kernel
set_option maxRecDepth 65536 in
theorem w_hears : about1.hears theMethod below0 = true := by decide +kernel
set_option maxRecDepth 65536 in
theorem w_ripe : about1.ripe theMethod args0 below0 = true := by decide +kernel
theorem w_running : about1.status = .running := rfl
set_option maxRecDepth 65536 in
theorem w_room : about1.hasRoom e0.platform room_1 = true :=
  launch0.hasRoom_least _ room_1 (by decide +kernel) (by decide +kernel) (by decide +kernel) (by decide +kernel) (by decide +kernel) (by decide +kernel)
theorem allAtoms_all (ts : List Jvm.Cond) (a : Array Jvm.Value) (st : Jvm.State) : (allAtoms ts).before a st = ts.all (fun c => c.before a st) := by
  induction ts with
  | nil => rfl
  | cons c t ih =>
    show (Jvm.Cond.and c (allAtoms t)).before a st = _
    rw [Jvm.Cond.before_and, ih, List.all_cons]
def words1 : List Jvm.Cond := Jvm.Cond.code x code maxLocals ret :: tables_1
/-- a 'code' word, met by the world's own term for the bytes: nothing is compared byte by byte -/
theorem code_word {y : MethodName} {bytes : ByteArray} {mx : Nat} {rt : Option FieldType} {a : Array Value} {s : State} {m : MethodId} {meth : Method} {c : Code} (h1 : s.methodNamed? y = some m) (h2 : s.vm.method? m = some meth) (h3 : meth.code = some c) (h4 : c.code = bytes)
    (h5 : (c.maxLocals == mx && c.exceptionTable.isEmpty && decide (c.maxStack ≤ mostOperands) && decide (meth.sig.returnType = rt) && !meth.locks && decide (parseMethodDescriptor y.desc = some meth.sig)) = true) : (Jvm.Cond.code y bytes mx rt).before a s = true := by
  simp only [Bool.and_eq_true, beq_iff_eq, Bool.not_eq_true', decide_eq_true_eq] at h5
  obtain ⟨⟨⟨⟨⟨g1, g2⟩, g3⟩, g4⟩, g5⟩, g6⟩ := h5
  simp [Cond.before, Cond.holds, Cond.value, h1, h2, h3, h4, g1, g2, g3, g4, g5, g6]
def isCode : Jvm.Cond → Bool
  | .code _ _ _ _ => true
  | _ => false
theorem all_split {L : List Jvm.Cond} {P : Jvm.Cond → Bool} (h1 : L.all (fun c => isCode c || P c) = true) (h2 : ∀ c ∈ L.filter isCode, P c = true) : L.all P = true := by
  refine List.all_eq_true.mpr fun c hc => ?_
  have h := List.all_eq_true.mp h1 c hc
  rcases Bool.eq_false_or_eq_true (isCode c) with hi | hi
  · exact h2 c (List.mem_filter.mpr ⟨hc, hi⟩)
  · simpa [hi] using h
set_option maxRecDepth 65536 in
theorem w_c0 : (Jvm.Cond.code x code maxLocals ret).before args0 about1 = true := code_word (m := ⟨1, 1⟩) (meth := k1m1) (c := k1c1) (by decide +kernel) rfl rfl rfl (by decide +kernel)
set_option maxRecDepth 65536 in
theorem w_c1 : (Jvm.Cond.code ({ cls := "com/example/bindery/bindery/IntegerValue", name := "<init>", desc := "(J)V" } : Jvm.MethodName) prog_129_method_1_code (3 : Nat) (Option.none : Option Jvm.ClassFile.FieldType)).before args0 about1 = true := code_word (m := ⟨4, 0⟩) (meth := k4m0) (c := k4c0) (by decide +kernel) rfl rfl rfl (by decide +kernel)
set_option maxRecDepth 65536 in
theorem w_c2 : (Jvm.Cond.code ({ cls := "java/lang/Record", name := "<init>", desc := "()V" } : Jvm.MethodName) jdk_30_method_1_code (1 : Nat) (Option.none : Option Jvm.ClassFile.FieldType)).before args0 about1 = true := code_word (m := ⟨2, 0⟩) (meth := k2m0) (c := k2c0) (by decide +kernel) rfl rfl rfl (by decide +kernel)
set_option maxRecDepth 65536 in
theorem w_c3 : (Jvm.Cond.code ({ cls := "java/lang/Object", name := "<init>", desc := "()V" } : Jvm.MethodName) object_method_1_code (1 : Nat) (Option.none : Option Jvm.ClassFile.FieldType)).before args0 about1 = true := code_word (m := ⟨0, 0⟩) (meth := k0m0) (c := k0c0) (by decide +kernel) rfl rfl rfl (by decide +kernel)
set_option maxRecDepth 65536 in
theorem w_c4 : (Jvm.Cond.code ({ cls := "com/example/bindery/bindery/IntegerValue", name := "equals", desc := "(Ljava/lang/Object;)Z" } : Jvm.MethodName) prog_129_method_4_code (3 : Nat) (Option.some Jvm.ClassFile.FieldType.boolean)).before args0 about1 = true := code_word (m := ⟨4, 1⟩) (meth := k4m1) (c := k4c1) (by decide +kernel) rfl rfl rfl (by decide +kernel)
set_option maxRecDepth 65536 in
theorem w_c5 : (Jvm.Cond.code ({ cls := "java/lang/Long", name := "valueOf", desc := "(J)Ljava/lang/Long;" } : Jvm.MethodName) jdk_35_method_24_code (3 : Nat) (Option.some (Jvm.ClassFile.FieldType.object "java/lang/Long"))).before args0 about1 = true := code_word (m := ⟨10, 0⟩) (meth := k10m0) (c := k10c0) (by decide +kernel) rfl rfl rfl (by decide +kernel)
set_option maxRecDepth 65536 in
theorem w_c6 : (Jvm.Cond.code ({ cls := "com/example/bindery/bindery/BooleanValue", name := "<init>", desc := "(Z)V" } : Jvm.MethodName) prog_14_method_1_code (2 : Nat) (Option.none : Option Jvm.ClassFile.FieldType)).before args0 about1 = true := code_word (m := ⟨12, 0⟩) (meth := k12m0) (c := k12c0) (by decide +kernel) rfl rfl rfl (by decide +kernel)
set_option maxRecDepth 65536 in
theorem w_c7 : (Jvm.Cond.code ({ cls := "java/lang/Long", name := "<init>", desc := "(J)V" } : Jvm.MethodName) jdk_35_method_26_code (3 : Nat) (Option.none : Option Jvm.ClassFile.FieldType)).before args0 about1 = true := code_word (m := ⟨10, 1⟩) (meth := k10m1) (c := k10c1) (by decide +kernel) rfl rfl rfl (by decide +kernel)
set_option maxRecDepth 65536 in
theorem w_c8 : (Jvm.Cond.code ({ cls := "java/lang/Number", name := "<init>", desc := "()V" } : Jvm.MethodName) jdk_18_method_1_code (1 : Nat) (Option.none : Option Jvm.ClassFile.FieldType)).before args0 about1 = true := code_word (m := ⟨6, 0⟩) (meth := k6m0) (c := k6c0) (by decide +kernel) rfl rfl rfl (by decide +kernel)
def codes1 : List Jvm.Cond := [Jvm.Cond.code x code maxLocals ret, Jvm.Cond.code ({ cls := "com/example/bindery/bindery/IntegerValue", name := "<init>", desc := "(J)V" } : Jvm.MethodName) prog_129_method_1_code (3 : Nat) (Option.none : Option Jvm.ClassFile.FieldType), Jvm.Cond.code ({ cls := "java/lang/Record", name := "<init>", desc := "()V" } : Jvm.MethodName) jdk_30_method_1_code (1 : Nat) (Option.none : Option Jvm.ClassFile.FieldType), Jvm.Cond.code ({ cls := "java/lang/Object", name := "<init>", desc := "()V" } : Jvm.MethodName) object_method_1_code (1 : Nat) (Option.none : Option Jvm.ClassFile.FieldType), Jvm.Cond.code ({ cls := "com/example/bindery/bindery/IntegerValue", name := "equals", desc := "(Ljava/lang/Object;)Z" } : Jvm.MethodName) prog_129_method_4_code (3 : Nat) (Option.some Jvm.ClassFile.FieldType.boolean), Jvm.Cond.code ({ cls := "java/lang/Long", name := "valueOf", desc := "(J)Ljava/lang/Long;" } : Jvm.MethodName) jdk_35_method_24_code (3 : Nat) (Option.some (Jvm.ClassFile.FieldType.object "java/lang/Long")), Jvm.Cond.code ({ cls := "com/example/bindery/bindery/BooleanValue", name := "<init>", desc := "(Z)V" } : Jvm.MethodName) prog_14_method_1_code (2 : Nat) (Option.none : Option Jvm.ClassFile.FieldType), Jvm.Cond.code ({ cls := "java/lang/Long", name := "<init>", desc := "(J)V" } : Jvm.MethodName) jdk_35_method_26_code (3 : Nat) (Option.none : Option Jvm.ClassFile.FieldType), Jvm.Cond.code ({ cls := "java/lang/Number", name := "<init>", desc := "()V" } : Jvm.MethodName) jdk_18_method_1_code (1 : Nat) (Option.none : Option Jvm.ClassFile.FieldType)]
set_option maxRecDepth 65536 in
theorem codes_eq : words1.filter isCode = codes1 := rfl
theorem w_codes : ∀ c ∈ words1.filter isCode, c.before args0 about1 = true := by
  rw [codes_eq]
  intro c hc
  simp only [codes1, List.mem_cons, List.not_mem_nil, or_false] at hc
  rcases hc with rfl | rfl | rfl | rfl | rfl | rfl | rfl | rfl | rfl
  · exact w_c0
  · exact w_c1
  · exact w_c2
  · exact w_c3
  · exact w_c4
  · exact w_c5
  · exact w_c6
  · exact w_c7
  · exact w_c8
set_option maxRecDepth 65536 in
theorem w_t1 : (words1.take 24).all (fun c => isCode c || c.before args0 about1) = true := by decide +kernel
set_option maxRecDepth 65536 in
theorem w_t2 : ((words1.drop 24).take 24).all (fun c => isCode c || c.before args0 about1) = true := by decide +kernel
set_option maxRecDepth 65536 in
theorem w_t3 : ((words1.drop 24).drop 24).all (fun c => isCode c || c.before args0 about1) = true := by decide +kernel
theorem w_tables : (allAtoms (Jvm.Cond.code x code maxLocals ret :: tables_1)).before args0 about1 = true := by
  rw [allAtoms_all]
  show words1.all (fun c => c.before args0 about1) = true
  refine all_split ?_ w_codes
  rw [← List.take_append_drop 24 words1, List.all_append, w_t1, ← List.take_append_drop 24 (words1.drop 24), List.all_append, w_t2, w_t3]
  rfl
set_option maxRecDepth 65536 in
theorem w_rest : rest_1_c.before args0 about1 = true := by decide +kernel
set_option maxRecDepth 65536 in
theorem w_case : (Jvm.Cond.and given_1 narrow_1).before args0 about1 = true := by decide +kernel
theorem w_applies : (headSpec (Jvm.Cond.code x code maxLocals ret :: tables_1) room_1).applies x e0.platform about1 = true :=
  (Spec.applies_iff w_frames).mpr ⟨w_running, w_runnable, w_alone, w_named, w_hears, w_ripe, w_room, w_tables⟩
theorem atStart : AtStart classFile x code maxLocals ret World_1 tables_1 room_1 Calls_1 rest_1 Pre_1 launch0 p0 e0 about1 theMethod args0 below0 :=
  ⟨lists_1, trivial, launch0.admits_env _ _ _, launch0.least_env, fairChoices_fair.cas, fairChoices_fair.clock, w_frames, w_args, w_heap, w_applies, trivial, w_rest, w_case⟩
end start1
theorem witness_1 : WitnessClaimed_1 := ⟨start1.p0, start1.e0, start1.about1, start1.theMethod, start1.args0, start1.below0, start1.atStart⟩
end Jvm.Pilot.@@N@@
