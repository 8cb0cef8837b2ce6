import JvmDerived
import JvmDerived.Pilot.@@N@@Statement
import JvmDerived.Pilot.@@N@@Code
set_option linter.unusedVariables false
set_option linter.unusedSimpArgs false
namespace Jvm.Pilot.@@N@@
open Jvm Jvm.ClassFile Sem Op Lib Jvm.Free Jvm.Stand Jvm.LawKit Jvm.RoadKit Bundle Jvm.Pilot.@@N@@.Jvm.D
/-! from the state S the run comes to an end that QQ allows -/
def Goes (p : Program) (e : Env) (below : List Frame) (QQ : Outcome → State → Prop) (S : State) : Prop :=
  ∃ s₂ o, Steps p.tables e below S s₂ ∧ s₂.status = .running ∧ Ended s₂ below o ∧ QQ o s₂
theorem Goes.on {p : Program} {e : Env} {below : List Frame} {QQ : Outcome → State → Prop} {S S' : State} (h : ∀ t, Steps p.tables e below S' t → Steps p.tables e below S t) (g : Goes p e below QQ S') : Goes p e below QQ S := by
  obtain ⟨s₂, o, h1, h2⟩ := g
  exact ⟨s₂, o, h _ h1, h2⟩
theorem Goes.cast {p : Program} {e : Env} {below : List Frame} {QQ : Outcome → State → Prop} {T : State} {g g' : JFrame} (q : g = g') (k : Goes p e below QQ (T.setTop g')) : Goes p e below QQ (T.setTop g) := q ▸ k
def EndsQ (s : State) (Q : Option Value → Heap → List Loc → Prop) (kc ks : Nat) (o : Outcome) (U' : State) : Prop := ∃ v L, o = .returned v ∧ Q v U'.heap L ∧ FrameEnd s o U' L kc ks
/-- a result alone -/
def QP (x : Value) (h0 : Heap) (n0 : Nat) (v : Option Value) (h : Heap) (L : List Loc) : Prop := v = some x ∧ Fr n0 L ∧ h = h0
theorem own_enter {l : Launch} {y : MethodName} {bytes : ByteArray} {maxL : Nat} {rt : Option FieldType} {ws : List Jvm.Cond} {rm : Room} {as' : Array Value} {Q : Option Value → Heap → List Loc → Prop} {Z : State} {h0 : Heap} {kc ks : Nat} (hp : plainFor y = true)
    (body : ∀ (p : Program) (e : Env) (s : State) (m : MethodId) (below : List Frame) (meth : Method) (c : Code) (s₁ : State) (QQ : Outcome → State → Prop), (∀ o U', EndsQ s Q kc ks o U' → QQ o U') → p.tables.exec = Jvm.exec → c.code = bytes → c.maxLocals = maxL → s.vm.findClass y.cls = some m.cls → meth.name = y.name → meth.sig.returnType = rt → meth.locks = false → Z.Warmed39 s.vm → Stand p l e rm s m as' below meth c s₁ [] 0 0 → s₁.heap = h0 →
      Goes p e below QQ (s₁.setTop (entryFrame m as' maxL))) :
    MetFree l y (head1 (Jvm.Cond.code y bytes maxL rt :: ws) rm) (fun a U => a = as' ∧ Z.Warmed39 U.vm ∧ U.heap = h0) (fun _ _ _ _ _ => True) (fun _ U o U' => ∃ v L, o = .returned v ∧ Q v U'.heap L ∧ FrameEnd U o U' L kc ks) := by
  refine MetFree.of_bodySF hp hisR ?_
  intro p e s m args below meth c s₁ Bd hml0 hP hK
  obtain ⟨rfl, hZ, hh⟩ := hP
  exact body p e s m below meth c s₁ _ (fun o U' h => h) Bd.exec Bd.bytes hml0 (findClass_of_methodNamed Bd.named) (name_of_methodNamed Bd.named Bd.method).1 Bd.returns (BodyLoose.notSynchronized Bd) hZ (Stand.of_body Bd) (by rw [← hh, Bd.state]; rfl)
section Ret
variable {p : Program} {l : Launch} {e : Env} {R : Room} {s : State} {m : MethodId} {args : Array Value} {below : List Frame} {meth : Method} {c : Code} {T : State} {locs : List Loc} {cells slots kc ks : Nat} {QQ : Outcome → State → Prop} {Q : Option Value → Heap → List Loc → Prop}
theorem Goes.fin (X : Stand p l e R s m args below meth c T locs cells slots) (hlk : meth.locks = false) {v : Option Value} (hv : meth.sig.returnType = none → v = none) {g : JFrame}
    (step : ∀ fs : List Frame, (∀ (f : JFrame) (acts : List Action), f.method = m → f.locked = none → f.entered = [] → (doReturn e (T.setTop f) acts v).1 = T.setFrames fs) → Steps p.tables e below (T.setTop g) (T.setFrames fs))
    (hQQ : ∀ o U', EndsQ s Q kc ks o U' → QQ o U') (hq : Q v T.heap locs) (hc : cells ≤ kc) (hs : slots ≤ ks) : Goes p e below QQ (T.setTop g) := by
  obtain ⟨fs, hr, hrun, hended, hW, hsame⟩ := X.leave (v := v) hv hlk
  exact ⟨_, _, step fs hr, hrun, hended, hQQ _ _ ⟨v, locs, rfl, hq, ⟨v, rfl⟩, hW, hsame.mono hc hs⟩⟩
theorem Goes.rI (X : Stand p l e R s m args below meth c T locs cells slots) (hx : p.tables.exec = Jvm.exec) (hret : meth.sig.returnType = some .int) (hlk : meth.locks = false) {pc : Nat} {Ls : Array Slot} {z : Int32} {rest : List Value} (hd : decode c.code pc = .ok (.ireturn, 1))
    (hQQ : ∀ o U', EndsQ s Q kc ks o U' → QQ o U') (hq : Q (some (.int z)) T.heap locs) (hc : cells ≤ kc) (hs : slots ≤ ks) : Goes p e below QQ (T.setTop (mkF m pc Ls (.int z :: rest))) :=
  Goes.fin X hlk (v := some (.int z)) (fun h => by rw [hret] at h; cases h) (fun fs hr => retOut X hx hret rfl (Or.inl ⟨rfl, Or.inl rfl, z, rfl⟩) hd hr) hQQ hq hc hs
theorem Goes.rN (X : Stand p l e R s m args below meth c T locs cells slots) (hx : p.tables.exec = Jvm.exec) {t : FieldType} (hret : meth.sig.returnType = some t) (ht : t = .boolean ∨ t = .byte ∨ t = .char ∨ t = .short) (hlk : meth.locks = false) {pc : Nat} {Ls : Array Slot} {z : Int32} {rest : List Value} (hd : decode c.code pc = .ok (.ireturn, 1))
    (hQQ : ∀ o U', EndsQ s Q kc ks o U' → QQ o U') (hq : Q (some (.int (nar t z))) T.heap locs) (hc : cells ≤ kc) (hs : slots ≤ ks) : Goes p e below QQ (T.setTop (mkF m pc Ls (.int z :: rest))) :=
  Goes.fin X hlk (v := some (.int (nar t z))) (fun h => by rw [hret] at h; cases h) (fun fs hr => retN X hx hret ht hd hr) hQQ hq hc hs
theorem Goes.rJ (X : Stand p l e R s m args below meth c T locs cells slots) (hx : p.tables.exec = Jvm.exec) (hret : meth.sig.returnType = some .long) (hlk : meth.locks = false) {pc : Nat} {Ls : Array Slot} {z : Int64} {rest : List Value} (hd : decode c.code pc = .ok (.lreturn, 1))
    (hQQ : ∀ o U', EndsQ s Q kc ks o U' → QQ o U') (hq : Q (some (.long z)) T.heap locs) (hc : cells ≤ kc) (hs : slots ≤ ks) : Goes p e below QQ (T.setTop (mkF m pc Ls (.long z :: rest))) :=
  Goes.fin X hlk (v := some (.long z)) (fun h => by rw [hret] at h; cases h) (fun fs hr => retOut X hx hret rfl (Or.inr (Or.inl ⟨rfl, rfl, z, rfl⟩)) hd hr) hQQ hq hc hs
theorem Goes.rA (X : Stand p l e R s m args below meth c T locs cells slots) (hx : p.tables.exec = Jvm.exec) {t : FieldType} (hret : meth.sig.returnType = some t) (ht : t.isReference = true) {w : Value} (hw : w.isRef = true) (hlk : meth.locks = false) {pc : Nat} {Ls : Array Slot} {rest : List Value} (hd : decode c.code pc = .ok (.areturn, 1))
    (hQQ : ∀ o U', EndsQ s Q kc ks o U' → QQ o U') (hq : Q (some w) T.heap locs) (hc : cells ≤ kc) (hs : slots ≤ ks) : Goes p e below QQ (T.setTop (mkF m pc Ls (w :: rest))) :=
  Goes.fin X hlk (v := some w) (fun h => by rw [hret] at h; cases h) (fun fs hr => retOut X hx hret (by cases w <;> first | (cases hw; done) | (cases t <;> first | (cases ht; done) | rfl)) (Or.inr (Or.inr (Or.inr (Or.inr ⟨rfl, ht, hw⟩)))) hd hr) hQQ hq hc hs
theorem Goes.rV (X : Stand p l e R s m args below meth c T locs cells slots) (hx : p.tables.exec = Jvm.exec) (hret : meth.sig.returnType = none) (hlk : meth.locks = false) {pc : Nat} {Ls : Array Slot} (hd : decode c.code pc = .ok (.return_, 1))
    (hQQ : ∀ o U', EndsQ s Q kc ks o U' → QQ o U') (hq : Q none T.heap locs) (hc : cells ≤ kc) (hs : slots ≤ ks) : Goes p e below QQ (T.setTop (mkF m pc Ls [])) :=
  Goes.fin X hlk (v := none) (fun _ => rfl) (fun fs hr => X.returnOut hx hret hd hr) hQQ hq hc hs
end Ret
/-- what the law leaves: it returned 1, and nothing old was written -/
def QL (n0 : Nat) (v : Option Value) (h : Heap) (L : List Loc) : Prop := v = some (.int 1) ∧ Fr n0 L
/-- nothing returned, the heap as it was -/
def QV (h0 : Heap) (n0 : Nat) (v : Option Value) (h : Heap) (L : List Loc) : Prop := v = none ∧ Fr n0 L ∧ h = h0
theorem own_fldI {args : Array Value} {s : State} {tt : Term} {C n d : String} {a : Addr} {k : Int32} (ht : tt.eval args s none [] s = some (.ref a)) (h : (Jvm.Cond.eq (Term.field tt C n d) (Term.int k)).value args s none s [] = some true) : Fld s s.heap a C n d (.int k) := by
  obtain ⟨x1, y1, e1, e2, k1, k2⟩ := cmp_v (Or.inl h)
  cases (Term.int_eval k).symm.trans e2
  obtain ⟨z1, rfl⟩ := k2
  have q := gotT (Cond.eq_ints e1 (Term.int_eval k)) h
  subst q
  exact Fld.start ((fld_at ht).symm.trans e1)
theorem d1_0 : decode method_2_code 0 = .ok (.iload_n 0, 1) := by decide +kernel
theorem d1_1 : decode method_2_code 1 = .ok (.ldc 7, 2) := by decide +kernel
theorem d1_3 : decode method_2_code 3 = .ok (.iand, 1) := by decide +kernel
theorem d1_4 : decode method_2_code 4 = .ok (.iconst 5, 1) := by decide +kernel
theorem d1_5 : decode method_2_code 5 = .ok (.irem, 1) := by decide +kernel
theorem d1_6 : decode method_2_code 6 = .ok (.istore_n 1, 1) := by decide +kernel
theorem d1_7 : decode method_2_code 7 = .ok (.iload_n 1, 1) := by decide +kernel
theorem d1_8 : decode method_2_code 8 = .ok (.ifCond .ne 7, 3) := by decide +kernel
theorem d1_11 : decode method_2_code 11 = .ok (.getstatic 8, 3) := by decide +kernel
theorem d1_14 : decode method_2_code 14 = .ok (.areturn, 1) := by decide +kernel
theorem d1_15 : decode method_2_code 15 = .ok (.iload_n 1, 1) := by decide +kernel
theorem d1_16 : decode method_2_code 16 = .ok (.iconst 1, 1) := by decide +kernel
theorem d1_17 : decode method_2_code 17 = .ok (.if_icmp .ne 7, 3) := by decide +kernel
theorem d1_20 : decode method_2_code 20 = .ok (.getstatic 14, 3) := by decide +kernel
theorem d1_23 : decode method_2_code 23 = .ok (.areturn, 1) := by decide +kernel
theorem d1_24 : decode method_2_code 24 = .ok (.iload_n 1, 1) := by decide +kernel
theorem d1_25 : decode method_2_code 25 = .ok (.iconst 2, 1) := by decide +kernel
theorem d1_26 : decode method_2_code 26 = .ok (.if_icmp .ne 7, 3) := by decide +kernel
theorem d1_29 : decode method_2_code 29 = .ok (.getstatic 17, 3) := by decide +kernel
theorem d1_32 : decode method_2_code 32 = .ok (.areturn, 1) := by decide +kernel
theorem d1_33 : decode method_2_code 33 = .ok (.iload_n 1, 1) := by decide +kernel
theorem d1_34 : decode method_2_code 34 = .ok (.iconst 3, 1) := by decide +kernel
theorem d1_35 : decode method_2_code 35 = .ok (.if_icmp .ne 7, 3) := by decide +kernel
theorem d1_38 : decode method_2_code 38 = .ok (.getstatic 20, 3) := by decide +kernel
theorem d1_41 : decode method_2_code 41 = .ok (.areturn, 1) := by decide +kernel
theorem d1_42 : decode method_2_code 42 = .ok (.getstatic 23, 3) := by decide +kernel
theorem d1_45 : decode method_2_code 45 = .ok (.areturn, 1) := by decide +kernel
theorem pn_1 : plainFor (⟨"com/example/clew/clew/algebra/ProperInstanceVariablesPinLaw", "pick", "(I)Lcom/example/clew/clew/rdfs/Scope;"⟩ : MethodName) = true := plainFor_of_name (show plainName "com/example/clew/clew/algebra/ProperInstanceVariablesPinLaw" = true by first | (simp [plainName, overriddenIn]; done) | decide +kernel)
theorem ef_rm1 (m : MethodId) (x0 : Int32) : entryFrame m #[(.int x0)] 2 = mkF m 0 #[iv x0, .unset] [] := by first | (simp [entryFrame, mkF, argsToLocals, Value.category]; done) | rfl
def pickA (p1 : Int32) (x0 : Addr) (x1 : Addr) (x2 : Addr) (x3 : Addr) (x4 : Addr) : Addr := (if ((p1 &&& (2147483647 : Int32)) % (5 : Int32)) = (0 : Int32) then x0 else (if ((p1 &&& (2147483647 : Int32)) % (5 : Int32)) = (1 : Int32) then x1 else (if ((p1 &&& (2147483647 : Int32)) % (5 : Int32)) = (2 : Int32) then x2 else (if ((p1 &&& (2147483647 : Int32)) % (5 : Int32)) = (3 : Int32) then x3 else x4))))
set_option maxRecDepth 65536 in
set_option maxHeartbeats 40000000 in
theorem rm1 (l : Launch) (Z : State) (a0 : Array Value) (hw : ∀ d ∈ tables_1, d.before a0 Z = true) (ws : List Jvm.Cond) (p1 : Int32) (x0 x1 x2 x3 x4 : Addr) (h0 : Heap) (n0 : Nat) (Z0 : n0 ≤ h0.size) (S_CLASSES : Sta Z Z.heap "com/example/clew/clew/rdfs/Scope" "CLASSES" "Lcom/example/clew/clew/rdfs/Scope;" (.ref x0)) (S_TYPES : Sta Z Z.heap "com/example/clew/clew/rdfs/Scope" "TYPES" "Lcom/example/clew/clew/rdfs/Scope;" (.ref x1)) (S_METACLASSES : Sta Z Z.heap "com/example/clew/clew/rdfs/Scope" "METACLASSES" "Lcom/example/clew/clew/rdfs/Scope;" (.ref x2)) (S_LITERAL_TYPES : Sta Z Z.heap "com/example/clew/clew/rdfs/Scope" "LITERAL_TYPES" "Lcom/example/clew/clew/rdfs/Scope;" (.ref x3)) (S_ANY : Sta Z Z.heap "com/example/clew/clew/rdfs/Scope" "ANY" "Lcom/example/clew/clew/rdfs/Scope;" (.ref x4)) (O_0 : Old Z n0 h0) :
    MetFree l (⟨"com/example/clew/clew/algebra/ProperInstanceVariablesPinLaw", "pick", "(I)Lcom/example/clew/clew/rdfs/Scope;"⟩ : MethodName) (head1 (Jvm.Cond.code (⟨"com/example/clew/clew/algebra/ProperInstanceVariablesPinLaw", "pick", "(I)Lcom/example/clew/clew/rdfs/Scope;"⟩ : MethodName) method_2_code 2 (some (.object "com/example/clew/clew/rdfs/Scope")) :: ws) ({ frames := 0, cells := 0, slots := 0, locals := 0 } : Room)) (fun a U => a = #[(.int p1)] ∧ Z.Warmed39 U.vm ∧ U.heap = h0) (fun _ _ _ _ _ => True) (fun _ U o U' => ∃ v L, o = .returned v ∧ QP (.ref (pickA p1 x0 x1 x2 x3 x4)) h0 n0 v U'.heap L ∧ FrameEnd U o U' L ({ frames := 0, cells := 0, slots := 0, locals := 0 } : Room).cells ({ frames := 0, cells := 0, slots := 0, locals := 0 } : Room).slots) := by
  refine own_enter pn_1 ?_
  intro p e s m below meth c s₁ QQ hQQ hx hby hml hown hnm hret hlk hZ X0 e0
  have hown : s.vm.findClass "com/example/clew/clew/algebra/ProperInstanceVariablesPinLaw" = some m.cls := hown
  have hml : c.maxLocals = 2 := hml
  have hret : meth.sig.returnType = some (.object "com/example/clew/clew/rdfs/Scope") := hret
  have N0 := Fr.nil n0
  have K0 := Keep.refl h0 []
  refine Goes.cast (ef_rm1 m p1) ?_
  show Goes p e below QQ (s₁.setTop (mkF m 0 #[iv p1, .unset] []))
  refine Goes.on (fun t k => XS.iloadN X0.here hx rfl (hb hby d1_0) rfl k) ?_
  show Goes p e below QQ (s₁.setTop (mkF m 1 #[iv p1, .unset] [(.int p1)]))
  refine Goes.on (fun t k => X0.ldcInt hx hown (mvT hZ (hw _ (List.mem_of_getElem? (i := 4) rfl))) (g := (mkF m 1 #[iv p1, .unset] [(.int p1)])) rfl (hb hby d1_1) t k) ?_
  show Goes p e below QQ (s₁.setTop (mkF m 3 #[iv p1, .unset] [(.int 2147483647), (.int p1)]))
  refine Goes.on (fun t k => XS.iand X0.here hx rfl (hb hby d1_3) rfl k) ?_
  show Goes p e below QQ (s₁.setTop (mkF m 4 #[iv p1, .unset] [(.int (p1 &&& (2147483647 : Int32)))]))
  refine Goes.on (fun t k => XS.iconst X0.here hx rfl (hb hby d1_4) k) ?_
  show Goes p e below QQ (s₁.setTop (mkF m 5 #[iv p1, .unset] [(.int 5), (.int (p1 &&& (2147483647 : Int32)))]))
  refine Goes.on (fun t k => iremM X0 hx rfl (hb hby d1_5) rfl (by decide) k) ?_
  show Goes p e below QQ (s₁.setTop (mkF m 6 #[iv p1, .unset] [(.int ((p1 &&& (2147483647 : Int32)) % (5 : Int32)))]))
  refine Goes.on (fun t k => XS.istoreN X0.here hx rfl (hb hby d1_6) rfl (l' := #[iv p1, iv ((p1 &&& (2147483647 : Int32)) % (5 : Int32))]) rfl k) ?_
  show Goes p e below QQ (s₁.setTop (mkF m 7 #[iv p1, iv ((p1 &&& (2147483647 : Int32)) % (5 : Int32))] []))
  refine Goes.on (fun t k => XS.iloadN X0.here hx rfl (hb hby d1_7) rfl k) ?_
  show Goes p e below QQ (s₁.setTop (mkF m 8 #[iv p1, iv ((p1 &&& (2147483647 : Int32)) % (5 : Int32))] [(.int ((p1 &&& (2147483647 : Int32)) % (5 : Int32)))]))
  by_cases hb1 : ((p1 &&& (2147483647 : Int32)) % (5 : Int32)) = (0 : Int32)
  · refine Goes.on (fun t k => XS.ifNo X0.here hx rfl (hb hby d1_8) rfl ((if0 _ _).trans (teq hb1).2) k) ?_
    show Goes p e below QQ (s₁.setTop (mkF m 11 #[iv p1, iv ((p1 &&& (2147483647 : Int32)) % (5 : Int32))] []))
    obtain ⟨T2, X2, e2, st2⟩ := getS2 X0 hx hZ hown (host := "") (Or.inl (hw _ (List.mem_of_getElem? (i := 38) rfl))) Via.refl e0 (S_CLASSES.ext O_0.2) (g := (mkF m 11 #[iv p1, iv ((p1 &&& (2147483647 : Int32)) % (5 : Int32))] [])) rfl (hb hby d1_11)
    refine Goes.on (fun t k => st2 t k) ?_
    show Goes p e below QQ (T2.setTop (mkF m 14 #[iv p1, iv ((p1 &&& (2147483647 : Int32)) % (5 : Int32))] [(.ref x0)]))
    exact Goes.rA X2 hx hret rfl rfl hlk (hb hby d1_14) hQQ ⟨congrArg (fun z => some (Value.ref z)) (((if_pos hb1).trans rfl) : (pickA p1 x0 x1 x2 x3 x4) = x0).symm, N0, e2⟩ (by decide) (by decide)
  · refine Goes.on (fun t k => XS.ifYes X0.here hx rfl (pc0 := 8) (pc' := 15) rfl (hb hby d1_8) rfl ((if0 _ _).trans (feq hb1).2) (by decide) (by decide) k) ?_
    show Goes p e below QQ (s₁.setTop (mkF m 15 #[iv p1, iv ((p1 &&& (2147483647 : Int32)) % (5 : Int32))] []))
    refine Goes.on (fun t k => XS.iloadN X0.here hx rfl (hb hby d1_15) rfl k) ?_
    show Goes p e below QQ (s₁.setTop (mkF m 16 #[iv p1, iv ((p1 &&& (2147483647 : Int32)) % (5 : Int32))] [(.int ((p1 &&& (2147483647 : Int32)) % (5 : Int32)))]))
    refine Goes.on (fun t k => XS.iconst X0.here hx rfl (hb hby d1_16) k) ?_
    show Goes p e below QQ (s₁.setTop (mkF m 17 #[iv p1, iv ((p1 &&& (2147483647 : Int32)) % (5 : Int32))] [(.int 1), (.int ((p1 &&& (2147483647 : Int32)) % (5 : Int32)))]))
    by_cases hb3 : ((p1 &&& (2147483647 : Int32)) % (5 : Int32)) = (1 : Int32)
    · refine Goes.on (fun t k => XS.icmpNo X0.here hx rfl (hb hby d1_17) rfl (teq hb3).2 k) ?_
      show Goes p e below QQ (s₁.setTop (mkF m 20 #[iv p1, iv ((p1 &&& (2147483647 : Int32)) % (5 : Int32))] []))
      obtain ⟨T4, X4, e4, st4⟩ := getS2 X0 hx hZ hown (host := "") (Or.inl (hw _ (List.mem_of_getElem? (i := 40) rfl))) Via.refl e0 (S_TYPES.ext O_0.2) (g := (mkF m 20 #[iv p1, iv ((p1 &&& (2147483647 : Int32)) % (5 : Int32))] [])) rfl (hb hby d1_20)
      refine Goes.on (fun t k => st4 t k) ?_
      show Goes p e below QQ (T4.setTop (mkF m 23 #[iv p1, iv ((p1 &&& (2147483647 : Int32)) % (5 : Int32))] [(.ref x1)]))
      exact Goes.rA X4 hx hret rfl rfl hlk (hb hby d1_23) hQQ ⟨congrArg (fun z => some (Value.ref z)) (((if_neg hb1).trans ((if_pos hb3).trans rfl)) : (pickA p1 x0 x1 x2 x3 x4) = x1).symm, N0, e4⟩ (by decide) (by decide)
    · refine Goes.on (fun t k => XS.icmpYes X0.here hx rfl (pc0 := 17) (pc' := 24) rfl (hb hby d1_17) rfl (feq hb3).2 (by decide) (by decide) k) ?_
      show Goes p e below QQ (s₁.setTop (mkF m 24 #[iv p1, iv ((p1 &&& (2147483647 : Int32)) % (5 : Int32))] []))
      refine Goes.on (fun t k => XS.iloadN X0.here hx rfl (hb hby d1_24) rfl k) ?_
      show Goes p e below QQ (s₁.setTop (mkF m 25 #[iv p1, iv ((p1 &&& (2147483647 : Int32)) % (5 : Int32))] [(.int ((p1 &&& (2147483647 : Int32)) % (5 : Int32)))]))
      refine Goes.on (fun t k => XS.iconst X0.here hx rfl (hb hby d1_25) k) ?_
      show Goes p e below QQ (s₁.setTop (mkF m 26 #[iv p1, iv ((p1 &&& (2147483647 : Int32)) % (5 : Int32))] [(.int 2), (.int ((p1 &&& (2147483647 : Int32)) % (5 : Int32)))]))
      by_cases hb5 : ((p1 &&& (2147483647 : Int32)) % (5 : Int32)) = (2 : Int32)
      · refine Goes.on (fun t k => XS.icmpNo X0.here hx rfl (hb hby d1_26) rfl (teq hb5).2 k) ?_
        show Goes p e below QQ (s₁.setTop (mkF m 29 #[iv p1, iv ((p1 &&& (2147483647 : Int32)) % (5 : Int32))] []))
        obtain ⟨T6, X6, e6, st6⟩ := getS2 X0 hx hZ hown (host := "") (Or.inl (hw _ (List.mem_of_getElem? (i := 5) rfl))) Via.refl e0 (S_METACLASSES.ext O_0.2) (g := (mkF m 29 #[iv p1, iv ((p1 &&& (2147483647 : Int32)) % (5 : Int32))] [])) rfl (hb hby d1_29)
        refine Goes.on (fun t k => st6 t k) ?_
        show Goes p e below QQ (T6.setTop (mkF m 32 #[iv p1, iv ((p1 &&& (2147483647 : Int32)) % (5 : Int32))] [(.ref x2)]))
        exact Goes.rA X6 hx hret rfl rfl hlk (hb hby d1_32) hQQ ⟨congrArg (fun z => some (Value.ref z)) (((if_neg hb1).trans ((if_neg hb3).trans ((if_pos hb5).trans rfl))) : (pickA p1 x0 x1 x2 x3 x4) = x2).symm, N0, e6⟩ (by decide) (by decide)
      · refine Goes.on (fun t k => XS.icmpYes X0.here hx rfl (pc0 := 26) (pc' := 33) rfl (hb hby d1_26) rfl (feq hb5).2 (by decide) (by decide) k) ?_
        show Goes p e below QQ (s₁.setTop (mkF m 33 #[iv p1, iv ((p1 &&& (2147483647 : Int32)) % (5 : Int32))] []))
        refine Goes.on (fun t k => XS.iloadN X0.here hx rfl (hb hby d1_33) rfl k) ?_
        show Goes p e below QQ (s₁.setTop (mkF m 34 #[iv p1, iv ((p1 &&& (2147483647 : Int32)) % (5 : Int32))] [(.int ((p1 &&& (2147483647 : Int32)) % (5 : Int32)))]))
        refine Goes.on (fun t k => XS.iconst X0.here hx rfl (hb hby d1_34) k) ?_
        show Goes p e below QQ (s₁.setTop (mkF m 35 #[iv p1, iv ((p1 &&& (2147483647 : Int32)) % (5 : Int32))] [(.int 3), (.int ((p1 &&& (2147483647 : Int32)) % (5 : Int32)))]))
        by_cases hb7 : ((p1 &&& (2147483647 : Int32)) % (5 : Int32)) = (3 : Int32)
        · refine Goes.on (fun t k => XS.icmpNo X0.here hx rfl (hb hby d1_35) rfl (teq hb7).2 k) ?_
          show Goes p e below QQ (s₁.setTop (mkF m 38 #[iv p1, iv ((p1 &&& (2147483647 : Int32)) % (5 : Int32))] []))
          obtain ⟨T8, X8, e8, st8⟩ := getS2 X0 hx hZ hown (host := "") (Or.inl (hw _ (List.mem_of_getElem? (i := 36) rfl))) Via.refl e0 (S_LITERAL_TYPES.ext O_0.2) (g := (mkF m 38 #[iv p1, iv ((p1 &&& (2147483647 : Int32)) % (5 : Int32))] [])) rfl (hb hby d1_38)
          refine Goes.on (fun t k => st8 t k) ?_
          show Goes p e below QQ (T8.setTop (mkF m 41 #[iv p1, iv ((p1 &&& (2147483647 : Int32)) % (5 : Int32))] [(.ref x3)]))
          exact Goes.rA X8 hx hret rfl rfl hlk (hb hby d1_41) hQQ ⟨congrArg (fun z => some (Value.ref z)) (((if_neg hb1).trans ((if_neg hb3).trans ((if_neg hb5).trans ((if_pos hb7).trans rfl)))) : (pickA p1 x0 x1 x2 x3 x4) = x3).symm, N0, e8⟩ (by decide) (by decide)
        · refine Goes.on (fun t k => XS.icmpYes X0.here hx rfl (pc0 := 35) (pc' := 42) rfl (hb hby d1_35) rfl (feq hb7).2 (by decide) (by decide) k) ?_
          show Goes p e below QQ (s₁.setTop (mkF m 42 #[iv p1, iv ((p1 &&& (2147483647 : Int32)) % (5 : Int32))] []))
          obtain ⟨T9, X9, e9, st9⟩ := getS2 X0 hx hZ hown (host := "") (Or.inl (hw _ (List.mem_of_getElem? (i := 34) rfl))) Via.refl e0 (S_ANY.ext O_0.2) (g := (mkF m 42 #[iv p1, iv ((p1 &&& (2147483647 : Int32)) % (5 : Int32))] [])) rfl (hb hby d1_42)
          refine Goes.on (fun t k => st9 t k) ?_
          show Goes p e below QQ (T9.setTop (mkF m 45 #[iv p1, iv ((p1 &&& (2147483647 : Int32)) % (5 : Int32))] [(.ref x4)]))
          exact Goes.rA X9 hx hret rfl rfl hlk (hb hby d1_45) hQQ ⟨congrArg (fun z => some (Value.ref z)) (((if_neg hb1).trans ((if_neg hb3).trans ((if_neg hb5).trans ((if_neg hb7).trans rfl)))) : (pickA p1 x0 x1 x2 x3 x4) = x4).symm, N0, e9⟩ (by decide) (by decide)
def QI (Z : State) (a1 : Addr) (p1 p2 : Int32) (h0 : Heap) (n0 : Nat) (v : Option Value) (h : Heap) (L : List Loc) : Prop := v = none ∧ Fr n0 L ∧ Keep h0 h [a1] ∧ Fld Z h a1 "com/example/clew/clew/algebra/Atom$ProperInstance" "cls" "I" (.int p1) ∧ Fld Z h a1 "com/example/clew/clew/algebra/Atom$ProperInstance" "resource" "I" (.int p2)
def QA (Z : State) (p1 p2 : Int32) (h0 : Heap) (n0 : Nat) (v : Option Value) (h : Heap) (L : List Loc) : Prop := ∃ (b : Addr) (kb : ClassId), v = some (.ref b) ∧ Fr n0 L ∧ Keep h0 h [] ∧ h0.size ≤ b ∧ Arv Z h b kb .int (2 : Int32) [(.int p1), (.int p2)] (.int (0 : Int32))
theorem d3_0 : decode jdk_30_method_1_code 0 = .ok (.aload_n 0, 1) := by decide +kernel
theorem d3_1 : decode jdk_30_method_1_code 1 = .ok (.invokespecial 1, 3) := by decide +kernel
theorem d3_4 : decode jdk_30_method_1_code 4 = .ok (.return_, 1) := by decide +kernel
theorem pn_3 : plainFor (⟨"java/lang/Record", "<init>", "()V"⟩ : MethodName) = true := plainFor_of_name (show plainName "java/lang/Record" = true by first | (simp [plainName, overriddenIn]; done) | decide +kernel)
theorem ef_rmR (m : MethodId) (x0 : Addr) : entryFrame m #[(.ref x0)] 1 = mkF m 0 #[rv x0] [] := by first | (simp [entryFrame, mkF, argsToLocals, Value.category]; done) | rfl
set_option maxRecDepth 65536 in
set_option maxHeartbeats 40000000 in
theorem rmR (l : Launch) (Z : State) (a0 : Array Value) (hw : ∀ d ∈ tables_1, d.before a0 Z = true) (ws : List Jvm.Cond) (a1 : Addr) (h0 : Heap) (n0 : Nat) (Z0 : n0 ≤ h0.size)  :
    MetFree l (⟨"java/lang/Record", "<init>", "()V"⟩ : MethodName) (head1 (Jvm.Cond.code (⟨"java/lang/Record", "<init>", "()V"⟩ : MethodName) jdk_30_method_1_code 1 none :: ws) ({ frames := 1, cells := 0, slots := 0, locals := 12 } : Room)) (fun a U => a = #[(.ref a1)] ∧ Z.Warmed39 U.vm ∧ U.heap = h0) (fun _ _ _ _ _ => True) (fun _ U o U' => ∃ v L, o = .returned v ∧ QV h0 n0 v U'.heap L ∧ FrameEnd U o U' L ({ frames := 1, cells := 0, slots := 0, locals := 12 } : Room).cells ({ frames := 1, cells := 0, slots := 0, locals := 12 } : Room).slots) := by
  refine own_enter pn_3 ?_
  intro p e s m below meth c s₁ QQ hQQ hx hby hml hown hnm hret hlk hZ X0 e0
  have hown : s.vm.findClass "java/lang/Record" = some m.cls := hown
  have hml : c.maxLocals = 1 := hml
  have hret : meth.sig.returnType = none := hret
  have N0 := Fr.nil n0
  have K0 := Keep.refl h0 []
  refine Goes.cast (ef_rmR m a1) ?_
  show Goes p e below QQ (s₁.setTop (mkF m 0 #[rv a1] []))
  refine Goes.on (fun t k => XS.aloadN X0.here hx rfl (hb hby d3_0) rfl rfl k) ?_
  show Goes p e below QQ (s₁.setTop (mkF m 1 #[rv a1] [(.ref a1)]))
  obtain ⟨T1, X1, e1, st1⟩ := initO X0 hx hZ hown (hw _ (List.mem_of_getElem? (i := 19) rfl)) (hw _ (List.mem_of_getElem? (i := 20) rfl)) (hw _ (List.mem_of_getElem? (i := 21) rfl)) e0 (g := (mkF m 1 #[rv a1] [(.ref a1)])) rfl (by rw [hml]; rfl) rfl (hb hby d3_1) (by decide) (W := 0) (by show 2 * 0 + _ ≤ _; exact Nat.le_of_eq rfl) (by decide)
  refine Goes.on (fun t k => st1 t k) ?_
  show Goes p e below QQ (T1.setTop (mkF m 4 #[rv a1] []))
  exact Goes.rV X1 hx hret hlk (hb hby d3_4) hQQ ⟨rfl, N0, e1⟩ (by decide) (by decide)
theorem d2_0 : decode prog_8_method_1_code 0 = .ok (.aload_n 0, 1) := by decide +kernel
theorem d2_1 : decode prog_8_method_1_code 1 = .ok (.invokespecial 1, 3) := by decide +kernel
theorem d2_4 : decode prog_8_method_1_code 4 = .ok (.aload_n 0, 1) := by decide +kernel
theorem d2_5 : decode prog_8_method_1_code 5 = .ok (.aload_n 1, 1) := by decide +kernel
theorem d2_6 : decode prog_8_method_1_code 6 = .ok (.putfield 7, 3) := by decide +kernel
theorem d2_9 : decode prog_8_method_1_code 9 = .ok (.aload_n 0, 1) := by decide +kernel
theorem d2_10 : decode prog_8_method_1_code 10 = .ok (.iload_n 2, 1) := by decide +kernel
theorem d2_11 : decode prog_8_method_1_code 11 = .ok (.putfield 13, 3) := by decide +kernel
theorem d2_14 : decode prog_8_method_1_code 14 = .ok (.aload_n 0, 1) := by decide +kernel
theorem d2_15 : decode prog_8_method_1_code 15 = .ok (.iload_n 3, 1) := by decide +kernel
theorem d2_16 : decode prog_8_method_1_code 16 = .ok (.putfield 17, 3) := by decide +kernel
theorem d2_19 : decode prog_8_method_1_code 19 = .ok (.return_, 1) := by decide +kernel
theorem pn_2 : plainFor (⟨"com/example/clew/clew/algebra/Atom$ProperInstance", "<init>", "(Lcom/example/clew/clew/rdfs/Scope;II)V"⟩ : MethodName) = true := plainFor_of_name (show plainName "com/example/clew/clew/algebra/Atom$ProperInstance" = true by first | (simp [plainName, overriddenIn]; done) | decide +kernel)
theorem ef_rm2 (m : MethodId) (x0 : Addr) (x1 : Addr) (x2 : Int32) (x3 : Int32) : entryFrame m #[(.ref x0), (.ref x1), (.int x2), (.int x3)] 4 = mkF m 0 #[rv x0, rv x1, iv x2, iv x3] [] := by first | (simp [entryFrame, mkF, argsToLocals, Value.category]; done) | rfl
theorem pd_0 : parseMethodDescriptor "()V" = some ⟨[], none⟩ := by decide +kernel
set_option maxRecDepth 65536 in
set_option maxHeartbeats 40000000 in
theorem rm2 (l : Launch) (Z : State) (a0 : Array Value) (hw : ∀ d ∈ tables_1, d.before a0 Z = true) (ws : List Jvm.Cond) (a1 a2 : Addr) (p1 p2 : Int32) (h0 : Heap) (n0 : Nat) (Z0 : n0 ≤ h0.size) (E_a1 : Exa Z h0 a1 "com/example/clew/clew/algebra/Atom$ProperInstance") (F_scope_a1 : Fld Z h0 a1 "com/example/clew/clew/algebra/Atom$ProperInstance" "scope" "Lcom/example/clew/clew/rdfs/Scope;" .null) (F_cls_a1 : Fld Z h0 a1 "com/example/clew/clew/algebra/Atom$ProperInstance" "cls" "I" (.int 0)) (F_resource_a1 : Fld Z h0 a1 "com/example/clew/clew/algebra/Atom$ProperInstance" "resource" "I" (.int 0)) (g_a1 : n0 ≤ a1) :
    MetFree l (⟨"com/example/clew/clew/algebra/Atom$ProperInstance", "<init>", "(Lcom/example/clew/clew/rdfs/Scope;II)V"⟩ : MethodName) (head1 (Jvm.Cond.code (⟨"com/example/clew/clew/algebra/Atom$ProperInstance", "<init>", "(Lcom/example/clew/clew/rdfs/Scope;II)V"⟩ : MethodName) prog_8_method_1_code 4 none :: ws) ({ frames := 2, cells := 0, slots := 0, locals := 24 } : Room)) (fun a U => a = #[(.ref a1), (.ref a2), (.int p1), (.int p2)] ∧ Z.Warmed39 U.vm ∧ U.heap = h0) (fun _ _ _ _ _ => True) (fun _ U o U' => ∃ v L, o = .returned v ∧ QI Z a1 p1 p2 h0 n0 v U'.heap L ∧ FrameEnd U o U' L ({ frames := 2, cells := 0, slots := 0, locals := 24 } : Room).cells ({ frames := 2, cells := 0, slots := 0, locals := 24 } : Room).slots) := by
  refine own_enter pn_2 ?_
  intro p e s m below meth c s₁ QQ hQQ hx hby hml hown hnm hret hlk hZ X0 e0
  have hown : s.vm.findClass "com/example/clew/clew/algebra/Atom$ProperInstance" = some m.cls := hown
  have hml : c.maxLocals = 4 := hml
  have hret : meth.sig.returnType = none := hret
  have N0 := Fr.nil n0
  have K0 := Keep.refl h0 [a1]
  refine Goes.cast (ef_rm2 m a1 a2 p1 p2) ?_
  show Goes p e below QQ (s₁.setTop (mkF m 0 #[rv a1, rv a2, iv p1, iv p2] []))
  refine Goes.on (fun t k => XS.aloadN X0.here hx rfl (hb hby d2_0) rfl rfl k) ?_
  show Goes p e below QQ (s₁.setTop (mkF m 1 #[rv a1, rv a2, iv p1, iv p2] [(.ref a1)]))
  obtain ⟨_, _, ⟨T1, L1, k1, n1⟩, -, X1, ⟨Lc1, hQ1, l1, y1, z1⟩, st1⟩ := X0.specialBack hx (y := (⟨"java/lang/Record", "<init>", "()V"⟩ : MethodName)) rfl hown (mvT hZ (hw _ (List.mem_of_getElem? (i := 14) rfl))) (mvT hZ (hw _ (List.mem_of_getElem? (i := 15) rfl))) (mvT hZ (hw _ (List.mem_of_getElem? (i := 18) rfl))) (by decide) (backOf (W := 0) (rmR l Z a0 hw [] a1 h0 n0 (Nat.le_trans Z0 K0.1)) hZ (hw _ (List.mem_of_getElem? (i := 18) rfl)) (hw _ (List.mem_of_getElem? (i := 17) rfl)) (by decide) (by decide)) (g := (mkF m 1 #[rv a1, rv a2, iv p1, iv p2] [(.ref a1)])) rfl (by rw [hml]; rfl) (Steps.refl _) (a := a1) (argsL := []) (rest := []) (lenOf pd_0 rfl) rfl (by show 2 * 0 + _ ≤ _; exact Nat.le_of_eq rfl) (hb hby d2_1) (fun _ _ => ⟨rfl, e0, (by decide : 0 + 0 ≤ _), (by decide : 0 + 0 ≤ _)⟩)
  dsimp only [Pt.U, Pt.locs, Pt.cells, Pt.slots] at X1 l1 y1 z1 st1 hQ1
  subst l1 y1 z1
  obtain ⟨rfl, M1, e1⟩ := hQ1
  have N1 := Fr.app N0 M1
  refine Goes.on (fun t k => st1.trans k) ?_
  show Goes p e below QQ (T1.setTop (mkF m 4 #[rv a1, rv a2, iv p1, iv p2] []))
  refine Goes.on (fun t k => XS.aloadN X1.here hx rfl (hb hby d2_4) rfl rfl k) ?_
  show Goes p e below QQ (T1.setTop (mkF m 5 #[rv a1, rv a2, iv p1, iv p2] [(.ref a1)]))
  refine Goes.on (fun t k => XS.aloadN X1.here hx rfl (hb hby d2_5) rfl rfl k) ?_
  show Goes p e below QQ (T1.setTop (mkF m 6 #[rv a1, rv a2, iv p1, iv p2] [(.ref a2), (.ref a1)]))
  obtain ⟨T2, h2, X2, e2, W2, st2⟩ := putF X1 hx hZ hown (host := "") (Or.inl (hw _ (List.mem_of_getElem? (i := 22) rfl))) Via.refl e1 F_scope_a1 E_a1 (Or.inr ⟨(hw _ (List.mem_of_getElem? (i := 23) rfl)), rfl, hnm⟩) (hw _ (List.mem_of_getElem? (i := 9) rfl)) (ty := (.object "com/example/clew/clew/rdfs/Scope")) (by decide) rfl rfl (g := (mkF m 6 #[rv a1, rv a2, iv p1, iv p2] [(.ref a2), (.ref a1)])) rfl rfl (hb hby d2_6)
  have E_3 := E_a1.wr W2
  have F_4 := F_cls_a1.other W2 (Or.inr (slot_ne (Or.inr (hw _ (List.mem_of_getElem? (i := 25) rfl))) (Or.inr (hw _ (List.mem_of_getElem? (i := 23) rfl))) (by decide) (t := .int) (t' := (.object "com/example/clew/clew/rdfs/Scope")) (by decide) (by decide)))
  have F_5 := F_resource_a1.other W2 (Or.inr (slot_ne (Or.inr (hw _ (List.mem_of_getElem? (i := 27) rfl))) (Or.inr (hw _ (List.mem_of_getElem? (i := 23) rfl))) (by decide) (t := .int) (t' := (.object "com/example/clew/clew/rdfs/Scope")) (by decide) (by decide)))
  have K2 := K0.wr W2 (Or.inl (List.mem_of_getElem? (i := 0) rfl))
  have N2 := Fr.snoc X2 N1 g_a1
  have F_6 := (F_scope_a1.same W2 : Fld Z h2 a1 "com/example/clew/clew/algebra/Atom$ProperInstance" "scope" "Lcom/example/clew/clew/rdfs/Scope;" (.ref a2))
  refine Goes.on (fun t k => st2 t k) ?_
  show Goes p e below QQ (T2.setTop (mkF m 9 #[rv a1, rv a2, iv p1, iv p2] []))
  refine Goes.on (fun t k => XS.aloadN X2.here hx rfl (hb hby d2_9) rfl rfl k) ?_
  show Goes p e below QQ (T2.setTop (mkF m 10 #[rv a1, rv a2, iv p1, iv p2] [(.ref a1)]))
  refine Goes.on (fun t k => XS.iloadN X2.here hx rfl (hb hby d2_10) rfl k) ?_
  show Goes p e below QQ (T2.setTop (mkF m 11 #[rv a1, rv a2, iv p1, iv p2] [(.int p1), (.ref a1)]))
  obtain ⟨T7, h7, X7, e7, W7, st7⟩ := putF X2 hx hZ hown (host := "") (Or.inl (hw _ (List.mem_of_getElem? (i := 24) rfl))) Via.refl e2 F_4 E_3 (Or.inr ⟨(hw _ (List.mem_of_getElem? (i := 25) rfl)), rfl, hnm⟩) (hw _ (List.mem_of_getElem? (i := 9) rfl)) (ty := .int) (by decide) rfl rfl (g := (mkF m 11 #[rv a1, rv a2, iv p1, iv p2] [(.int p1), (.ref a1)])) rfl rfl (hb hby d2_11)
  have E_8 := E_3.wr W7
  have F_9 := F_6.other W7 (Or.inr (slot_ne (Or.inr (hw _ (List.mem_of_getElem? (i := 23) rfl))) (Or.inr (hw _ (List.mem_of_getElem? (i := 25) rfl))) (by decide) (t := (.object "com/example/clew/clew/rdfs/Scope")) (t' := .int) (by decide) (by decide)))
  have F_10 := F_5.other W7 (Or.inr (slot_ne (Or.inr (hw _ (List.mem_of_getElem? (i := 27) rfl))) (Or.inr (hw _ (List.mem_of_getElem? (i := 25) rfl))) (by decide) (t := .int) (t' := .int) (by decide) (by decide)))
  have K7 := K2.wr W7 (Or.inl (List.mem_of_getElem? (i := 0) rfl))
  have N7 := Fr.snoc X7 N2 g_a1
  have F_11 := (F_4.same W7 : Fld Z h7 a1 "com/example/clew/clew/algebra/Atom$ProperInstance" "cls" "I" (.int p1))
  refine Goes.on (fun t k => st7 t k) ?_
  show Goes p e below QQ (T7.setTop (mkF m 14 #[rv a1, rv a2, iv p1, iv p2] []))
  refine Goes.on (fun t k => XS.aloadN X7.here hx rfl (hb hby d2_14) rfl rfl k) ?_
  show Goes p e below QQ (T7.setTop (mkF m 15 #[rv a1, rv a2, iv p1, iv p2] [(.ref a1)]))
  refine Goes.on (fun t k => XS.iloadN X7.here hx rfl (hb hby d2_15) rfl k) ?_
  show Goes p e below QQ (T7.setTop (mkF m 16 #[rv a1, rv a2, iv p1, iv p2] [(.int p2), (.ref a1)]))
  obtain ⟨T12, h12, X12, e12, W12, st12⟩ := putF X7 hx hZ hown (host := "") (Or.inl (hw _ (List.mem_of_getElem? (i := 26) rfl))) Via.refl e7 F_10 E_8 (Or.inr ⟨(hw _ (List.mem_of_getElem? (i := 27) rfl)), rfl, hnm⟩) (hw _ (List.mem_of_getElem? (i := 9) rfl)) (ty := .int) (by decide) rfl rfl (g := (mkF m 16 #[rv a1, rv a2, iv p1, iv p2] [(.int p2), (.ref a1)])) rfl rfl (hb hby d2_16)
  have E_13 := E_8.wr W12
  have F_14 := F_9.other W12 (Or.inr (slot_ne (Or.inr (hw _ (List.mem_of_getElem? (i := 23) rfl))) (Or.inr (hw _ (List.mem_of_getElem? (i := 27) rfl))) (by decide) (t := (.object "com/example/clew/clew/rdfs/Scope")) (t' := .int) (by decide) (by decide)))
  have F_15 := F_11.other W12 (Or.inr (slot_ne (Or.inr (hw _ (List.mem_of_getElem? (i := 25) rfl))) (Or.inr (hw _ (List.mem_of_getElem? (i := 27) rfl))) (by decide) (t := .int) (t' := .int) (by decide) (by decide)))
  have K12 := K7.wr W12 (Or.inl (List.mem_of_getElem? (i := 0) rfl))
  have N12 := Fr.snoc X12 N7 g_a1
  have F_16 := (F_10.same W12 : Fld Z h12 a1 "com/example/clew/clew/algebra/Atom$ProperInstance" "resource" "I" (.int p2))
  refine Goes.on (fun t k => st12 t k) ?_
  show Goes p e below QQ (T12.setTop (mkF m 19 #[rv a1, rv a2, iv p1, iv p2] []))
  exact Goes.rV X12 hx hret hlk (hb hby d2_19) hQQ (by rw [e12]; exact ⟨rfl, N12, K12, F_15, F_16⟩) (by decide) (by decide)
theorem d5_0 : decode prog_8_method_2_code 0 = .ok (.iconst 2, 1) := by decide +kernel
theorem d5_1 : decode prog_8_method_2_code 1 = .ok (.newarray .int, 2) := by decide +kernel
theorem d5_3 : decode prog_8_method_2_code 3 = .ok (.dup, 1) := by decide +kernel
theorem d5_4 : decode prog_8_method_2_code 4 = .ok (.iconst 0, 1) := by decide +kernel
theorem d5_5 : decode prog_8_method_2_code 5 = .ok (.aload_n 0, 1) := by decide +kernel
theorem d5_6 : decode prog_8_method_2_code 6 = .ok (.getfield 13, 3) := by decide +kernel
theorem d5_9 : decode prog_8_method_2_code 9 = .ok (.iastore, 1) := by decide +kernel
theorem d5_10 : decode prog_8_method_2_code 10 = .ok (.dup, 1) := by decide +kernel
theorem d5_11 : decode prog_8_method_2_code 11 = .ok (.iconst 1, 1) := by decide +kernel
theorem d5_12 : decode prog_8_method_2_code 12 = .ok (.aload_n 0, 1) := by decide +kernel
theorem d5_13 : decode prog_8_method_2_code 13 = .ok (.getfield 17, 3) := by decide +kernel
theorem d5_16 : decode prog_8_method_2_code 16 = .ok (.iastore, 1) := by decide +kernel
theorem d5_17 : decode prog_8_method_2_code 17 = .ok (.areturn, 1) := by decide +kernel
theorem pn_5 : plainFor (⟨"com/example/clew/clew/algebra/Atom$ProperInstance", "variables", "()[I"⟩ : MethodName) = true := plainFor_of_name (show plainName "com/example/clew/clew/algebra/Atom$ProperInstance" = true by first | (simp [plainName, overriddenIn]; done) | decide +kernel)
theorem ef_rm3 (m : MethodId) (x0 : Addr) : entryFrame m #[(.ref x0)] 1 = mkF m 0 #[rv x0] [] := by first | (simp [entryFrame, mkF, argsToLocals, Value.category]; done) | rfl
set_option maxRecDepth 65536 in
set_option maxHeartbeats 40000000 in
theorem rm3 (l : Launch) (Z : State) (a0 : Array Value) (hw : ∀ d ∈ tables_1, d.before a0 Z = true) (ws : List Jvm.Cond) (a1 : Addr) (p1 p2 : Int32) (h0 : Heap) (n0 : Nat) (Z0 : n0 ≤ h0.size) (F_cls_a1 : Fld Z h0 a1 "com/example/clew/clew/algebra/Atom$ProperInstance" "cls" "I" (.int p1)) (F_resource_a1 : Fld Z h0 a1 "com/example/clew/clew/algebra/Atom$ProperInstance" "resource" "I" (.int p2)) :
    MetFree l (⟨"com/example/clew/clew/algebra/Atom$ProperInstance", "variables", "()[I"⟩ : MethodName) (head1 (Jvm.Cond.code (⟨"com/example/clew/clew/algebra/Atom$ProperInstance", "variables", "()[I"⟩ : MethodName) prog_8_method_2_code 1 (some (.array .int)) :: ws) ({ frames := 0, cells := 1, slots := 2, locals := 0 } : Room)) (fun a U => a = #[(.ref a1)] ∧ Z.Warmed39 U.vm ∧ U.heap = h0) (fun _ _ _ _ _ => True) (fun _ U o U' => ∃ v L, o = .returned v ∧ QA Z p1 p2 h0 n0 v U'.heap L ∧ FrameEnd U o U' L ({ frames := 0, cells := 1, slots := 2, locals := 0 } : Room).cells ({ frames := 0, cells := 1, slots := 2, locals := 0 } : Room).slots) := by
  refine own_enter pn_5 ?_
  intro p e s m below meth c s₁ QQ hQQ hx hby hml hown hnm hret hlk hZ X0 e0
  have hown : s.vm.findClass "com/example/clew/clew/algebra/Atom$ProperInstance" = some m.cls := hown
  have hml : c.maxLocals = 1 := hml
  have hret : meth.sig.returnType = some (.array .int) := hret
  have N0 := Fr.nil n0
  have K0 := Keep.refl h0 []
  refine Goes.cast (ef_rm3 m a1) ?_
  show Goes p e below QQ (s₁.setTop (mkF m 0 #[rv a1] []))
  refine Goes.on (fun t k => XS.iconst X0.here hx rfl (hb hby d5_0) k) ?_
  show Goes p e below QQ (s₁.setTop (mkF m 1 #[rv a1] [(.int 2)]))
  obtain ⟨T1, h1, k1, X1, e1, E1, A1, st1⟩ := newP X0 hx hZ (hw _ (List.mem_of_getElem? (i := 33) rfl)) e0 (g := (mkF m 1 #[rv a1] [(.int 2)])) rfl (hb hby d5_1) rfl (by decide) (cap := 2) (by decide) (by decide) (by decide) (by decide)
  obtain ⟨b1, g1⟩ : ∃ z, z = h0.size := ⟨_, rfl⟩
  rw [← g1] at A1 st1
  have sz_b1 : h0.size ≤ b1 := Nat.le_trans K0.1 (Nat.le_of_eq g1.symm)
  have g_b1 : n0 ≤ b1 := Nat.le_trans Z0 sz_b1
  have ne_a1_b1 : a1 ≠ b1 := Nat.ne_of_lt (Nat.lt_of_lt_of_le F_cls_a1.lt (Nat.le_of_eq g1.symm))
  have F_2 := F_cls_a1.ext E1
  have F_3 := F_resource_a1.ext E1
  have K1 := K0.ext E1
  have V_4 : Arv Z h1 b1 k1 .int (2 : Int32) [(.int 0), (.int 0)] (.int 0) := (Arv.new A1 (by decide)).pad (pad_rep [] (.int 0) 2)
  refine Goes.on (fun t k => st1 t k) ?_
  show Goes p e below QQ (T1.setTop (mkF m 3 #[rv a1] [(.ref b1)]))
  refine Goes.on (fun t k => XS.dup X1.here hx rfl (hb hby d5_3) rfl rfl k) ?_
  show Goes p e below QQ (T1.setTop (mkF m 4 #[rv a1] [(.ref b1), (.ref b1)]))
  refine Goes.on (fun t k => XS.iconst X1.here hx rfl (hb hby d5_4) k) ?_
  show Goes p e below QQ (T1.setTop (mkF m 5 #[rv a1] [(.int 0), (.ref b1), (.ref b1)]))
  refine Goes.on (fun t k => XS.aloadN X1.here hx rfl (hb hby d5_5) rfl rfl k) ?_
  show Goes p e below QQ (T1.setTop (mkF m 6 #[rv a1] [(.ref a1), (.int 0), (.ref b1), (.ref b1)]))
  obtain ⟨T5, X5, e5, st5⟩ := getF X1 hx hZ hown (host := "") (Or.inl (hw _ (List.mem_of_getElem? (i := 24) rfl))) Via.refl e1 F_2 (g := (mkF m 6 #[rv a1] [(.ref a1), (.int 0), (.ref b1), (.ref b1)])) rfl rfl (hb hby d5_6)
  refine Goes.on (fun t k => st5 t k) ?_
  show Goes p e below QQ (T5.setTop (mkF m 9 #[rv a1] [(.int p1), (.int 0), (.ref b1), (.ref b1)]))
  obtain ⟨cl6, Ar6, q6, S6, N6z, H6, G6⟩ := id V_4
  have hin6 := inb_of (j := (0 : Int32)) S6 ⟨by decide, by decide⟩
  obtain ⟨T7, h7, X7, e7, W7, st7⟩ := stI X5 hx hZ e5 Ar6 (j := (0 : Int32)) hin6 (g := (mkF m 9 #[rv a1] [(.int p1), (.int 0), (.ref b1), (.ref b1)])) rfl rfl (hb hby d5_9)
  have F_8 := F_2.other W7 (Or.inl ne_a1_b1)
  have F_9 := F_3.other W7 (Or.inl ne_a1_b1)
  have K7 := K1.wr W7 (Or.inr sz_b1)
  have N7 := Fr.snoc X7 N0 g_b1
  have V_10 := (Arv.set Ar6 q6 S6 N6z H6 G6 rfl W7 0 rfl (Nat.le_of_ble_eq_true rfl) : Arv Z h7 b1 k1 .int (2 : Int32) [(.int p1), (.int 0)] (.int 0))
  refine Goes.on (fun t k => st7 t k) ?_
  show Goes p e below QQ (T7.setTop (mkF m 10 #[rv a1] [(.ref b1)]))
  refine Goes.on (fun t k => XS.dup X7.here hx rfl (hb hby d5_10) rfl rfl k) ?_
  show Goes p e below QQ (T7.setTop (mkF m 11 #[rv a1] [(.ref b1), (.ref b1)]))
  refine Goes.on (fun t k => XS.iconst X7.here hx rfl (hb hby d5_11) k) ?_
  show Goes p e below QQ (T7.setTop (mkF m 12 #[rv a1] [(.int 1), (.ref b1), (.ref b1)]))
  refine Goes.on (fun t k => XS.aloadN X7.here hx rfl (hb hby d5_12) rfl rfl k) ?_
  show Goes p e below QQ (T7.setTop (mkF m 13 #[rv a1] [(.ref a1), (.int 1), (.ref b1), (.ref b1)]))
  obtain ⟨T11, X11, e11, st11⟩ := getF X7 hx hZ hown (host := "") (Or.inl (hw _ (List.mem_of_getElem? (i := 26) rfl))) Via.refl e7 F_9 (g := (mkF m 13 #[rv a1] [(.ref a1), (.int 1), (.ref b1), (.ref b1)])) rfl rfl (hb hby d5_13)
  refine Goes.on (fun t k => st11 t k) ?_
  show Goes p e below QQ (T11.setTop (mkF m 16 #[rv a1] [(.int p2), (.int 1), (.ref b1), (.ref b1)]))
  obtain ⟨cl12, Ar12, q12, S12, N12z, H12, G12⟩ := id V_10
  have hin12 := inb_of (j := (1 : Int32)) S12 ⟨by decide, by decide⟩
  obtain ⟨T13, h13, X13, e13, W13, st13⟩ := stI X11 hx hZ e11 Ar12 (j := (1 : Int32)) hin12 (g := (mkF m 16 #[rv a1] [(.int p2), (.int 1), (.ref b1), (.ref b1)])) rfl rfl (hb hby d5_16)
  have F_14 := F_8.other W13 (Or.inl ne_a1_b1)
  have F_15 := F_9.other W13 (Or.inl ne_a1_b1)
  have K13 := K7.wr W13 (Or.inr sz_b1)
  have N13 := Fr.snoc X13 N7 g_b1
  have V_16 := (Arv.set Ar12 q12 S12 N12z H12 G12 rfl W13 1 rfl (Nat.le_of_ble_eq_true rfl) : Arv Z h13 b1 k1 .int (2 : Int32) [(.int p1), (.int p2)] (.int 0))
  refine Goes.on (fun t k => st13 t k) ?_
  show Goes p e below QQ (T13.setTop (mkF m 17 #[rv a1] [(.ref b1)]))
  exact Goes.rA X13 hx hret rfl rfl hlk (hb hby d5_17) hQQ (by rw [e13]; exact ⟨b1, k1, rfl, N13, K13, sz_b1, V_16⟩) (by decide) (by decide)
theorem pn_0 : plainFor x = true := plainFor_of_name (show plainName "com/example/clew/clew/algebra/ProperInstanceVariablesPinLaw" = true by first | (simp [plainName, overriddenIn]; done) | decide +kernel)
theorem ef_rm0 (m : MethodId) (x0 : Int32) (x1 : Int32) (x2 : Int32) (x3 : Int32) : entryFrame m #[(.int x0), (.int x1), (.int x2), (.int x3)] maxLocals = mkF m 0 #[iv x0, iv x1, iv x2, iv x3, .unset, .unset, .unset, .unset, .unset, .unset] [] := by first | (simp [entryFrame, mkF, argsToLocals, Value.category, maxLocals]; done) | rfl
theorem pd_1 : parseMethodDescriptor "(I)Lcom/example/clew/clew/rdfs/Scope;" = some ⟨[.int], some (.object "com/example/clew/clew/rdfs/Scope")⟩ := by decide +kernel
theorem pd_2 : parseMethodDescriptor "(Lcom/example/clew/clew/rdfs/Scope;II)V" = some ⟨[(.object "com/example/clew/clew/rdfs/Scope"), .int, .int], none⟩ := by decide +kernel
theorem pd_3 : parseMethodDescriptor "()[I" = some ⟨[], some (.array .int)⟩ := by decide +kernel
set_option maxRecDepth 65536 in
set_option maxHeartbeats 40000000 in
theorem rm0 (l : Launch) (Z : State) (a0 : Array Value) (hw : ∀ d ∈ tables_1, d.before a0 Z = true) (ws : List Jvm.Cond) (p1 p2 p3 p4 : Int32) (x0 x1 x2 x3 x4 : Addr) (h0 : Heap) (n0 : Nat) (Z0 : n0 ≤ h0.size) (S_CLASSES : Sta Z Z.heap "com/example/clew/clew/rdfs/Scope" "CLASSES" "Lcom/example/clew/clew/rdfs/Scope;" (.ref x0)) (S_TYPES : Sta Z Z.heap "com/example/clew/clew/rdfs/Scope" "TYPES" "Lcom/example/clew/clew/rdfs/Scope;" (.ref x1)) (S_METACLASSES : Sta Z Z.heap "com/example/clew/clew/rdfs/Scope" "METACLASSES" "Lcom/example/clew/clew/rdfs/Scope;" (.ref x2)) (S_LITERAL_TYPES : Sta Z Z.heap "com/example/clew/clew/rdfs/Scope" "LITERAL_TYPES" "Lcom/example/clew/clew/rdfs/Scope;" (.ref x3)) (S_ANY : Sta Z Z.heap "com/example/clew/clew/rdfs/Scope" "ANY" "Lcom/example/clew/clew/rdfs/Scope;" (.ref x4)) (O_0 : Old Z n0 h0) :
    MetFree l x (head1 (Jvm.Cond.code x code maxLocals ret :: ws) room_1) (fun a U => a = #[(.int p1), (.int p2), (.int p3), (.int p4)] ∧ Z.Warmed39 U.vm ∧ U.heap = h0) (fun _ _ _ _ _ => True) (fun _ U o U' => ∃ v L, o = .returned v ∧ QL n0 v U'.heap L ∧ FrameEnd U o U' L 16 128) := by
  refine own_enter pn_0 ?_
  intro p e s m below meth c s₁ QQ hQQ hx hby hml hown hnm hret hlk hZ X0 e0
  have hown : s.vm.findClass "com/example/clew/clew/algebra/ProperInstanceVariablesPinLaw" = some m.cls := hown
  have hml : c.maxLocals = 10 := hml
  have hret : meth.sig.returnType = some .boolean := hret
  have N0 := Fr.nil n0
  have K0 := Keep.refl h0 []
  refine Goes.cast (ef_rm0 m p1 p2 p3 p4) ?_
  show Goes p e below QQ (s₁.setTop (mkF m 0 #[iv p1, iv p2, iv p3, iv p4, .unset, .unset, .unset, .unset, .unset, .unset] []))
  refine Goes.on (fun t k => XS.iloadN X0.here hx rfl (hb hby at_0) rfl k) ?_
  show Goes p e below QQ (s₁.setTop (mkF m 1 #[iv p1, iv p2, iv p3, iv p4, .unset, .unset, .unset, .unset, .unset, .unset] [(.int p4)]))
  refine Goes.on (fun t k => XS.iconst X0.here hx rfl (hb hby at_1) k) ?_
  show Goes p e below QQ (s₁.setTop (mkF m 2 #[iv p1, iv p2, iv p3, iv p4, .unset, .unset, .unset, .unset, .unset, .unset] [(.int 1), (.int p4)]))
  refine Goes.on (fun t k => XS.iand X0.here hx rfl (hb hby at_2) rfl k) ?_
  show Goes p e below QQ (s₁.setTop (mkF m 3 #[iv p1, iv p2, iv p3, iv p4, .unset, .unset, .unset, .unset, .unset, .unset] [(.int (p4 &&& (1 : Int32)))]))
  by_cases hb1 : (p4 &&& (1 : Int32)) = (0 : Int32)
  · refine Goes.on (fun t k => XS.ifYes X0.here hx rfl (pc0 := 3) (pc' := 10) rfl (hb hby at_3) rfl ((if0 _ _).trans (teq hb1).1) (by decide) (by decide) k) ?_
    show Goes p e below QQ (s₁.setTop (mkF m 10 #[iv p1, iv p2, iv p3, iv p4, .unset, .unset, .unset, .unset, .unset, .unset] []))
    refine Goes.on (fun t k => XS.iloadN X0.here hx rfl (hb hby at_10) rfl k) ?_
    show Goes p e below QQ (s₁.setTop (mkF m 11 #[iv p1, iv p2, iv p3, iv p4, .unset, .unset, .unset, .unset, .unset, .unset] [(.int p2)]))
    refine Goes.on (fun t k => XS.istore X0.here hx rfl (hb hby at_11) rfl (l' := #[iv p1, iv p2, iv p3, iv p4, iv p2, .unset, .unset, .unset, .unset, .unset]) rfl k) ?_
    show Goes p e below QQ (s₁.setTop (mkF m 13 #[iv p1, iv p2, iv p3, iv p4, iv p2, .unset, .unset, .unset, .unset, .unset] []))
    refine Goes.on (fun t k => XS.iloadN X0.here hx rfl (hb hby at_13) rfl k) ?_
    show Goes p e below QQ (s₁.setTop (mkF m 14 #[iv p1, iv p2, iv p3, iv p4, iv p2, .unset, .unset, .unset, .unset, .unset] [(.int p3)]))
    obtain ⟨_, _, ⟨T2, L2, k2, n2⟩, -, X2, ⟨Lc2, hQ2, l2, y2, z2⟩, st2⟩ := Jvm.LawKit.callS X0 hx (y := (⟨"com/example/clew/clew/algebra/ProperInstanceVariablesPinLaw", "pick", "(I)Lcom/example/clew/clew/rdfs/Scope;"⟩ : MethodName)) hown (mvT hZ (hw _ (List.mem_of_getElem? (i := 0) rfl))) (mvT hZ (hw _ (List.mem_of_getElem? (i := 1) rfl))) (mvT hZ (hw _ (List.mem_of_getElem? (i := 2) rfl))) (mvT hZ (hw _ (List.mem_of_getElem? (i := 3) rfl))) (by decide) (backOf (W := 0) (rm1 l Z a0 hw [] p3 x0 x1 x2 x3 x4 h0 n0 (Nat.le_trans Z0 K0.1) S_CLASSES S_TYPES S_METACLASSES S_LITERAL_TYPES S_ANY O_0) hZ (hw _ (List.mem_of_getElem? (i := 3) rfl)) (hw _ (List.mem_of_getElem? (i := 2) rfl)) (by decide) (by decide)) (g := (mkF m 14 #[iv p1, iv p2, iv p3, iv p4, iv p2, .unset, .unset, .unset, .unset, .unset] [(.int p3)])) rfl (by rw [hml]; rfl) (argsL := [(.int p3)]) (rest := []) (lenOf pd_1 rfl) rfl (by show 2 * 0 + _ ≤ _; exact Nat.le_of_eq rfl) (hb hby at_14) (fun _ _ => ⟨rfl, e0, (by decide : 0 + 0 ≤ _), (by decide : 0 + 0 ≤ _)⟩)
    dsimp only [Pt.U, Pt.locs, Pt.cells, Pt.slots] at X2 l2 y2 z2 st2 hQ2
    subst l2 y2 z2
    obtain ⟨rfl, M2, e2⟩ := hQ2
    have N2 := Fr.app N0 M2
    refine Goes.on (fun t k => st2 _ k) ?_
    show Goes p e below QQ (T2.setTop (mkF m 17 #[iv p1, iv p2, iv p3, iv p4, iv p2, .unset, .unset, .unset, .unset, .unset] [(.ref (pickA p3 x0 x1 x2 x3 x4))]))
    generalize hpk : (pickA p3 x0 x1 x2 x3 x4) = aP
    show Goes p e below QQ (T2.setTop (mkF m 17 #[iv p1, iv p2, iv p3, iv p4, iv p2, .unset, .unset, .unset, .unset, .unset] [(.ref aP)]))
    refine Goes.on (fun t k => XS.astore X2.here hx rfl (hb hby at_17) rfl rfl (l' := #[iv p1, iv p2, iv p3, iv p4, iv p2, rv aP, .unset, .unset, .unset, .unset]) rfl k) ?_
    show Goes p e below QQ (T2.setTop (mkF m 19 #[iv p1, iv p2, iv p3, iv p4, iv p2, rv aP, .unset, .unset, .unset, .unset] []))
    obtain ⟨T3, h3, X3, e3, E3, A3, D3, -, st3⟩ := newO X2 hx hZ hown (hw _ (List.mem_of_getElem? (i := 8) rfl)) (hw _ (List.mem_of_getElem? (i := 9) rfl)) (hw _ (List.mem_of_getElem? (i := 10) rfl)) e2 (g := (mkF m 19 #[iv p1, iv p2, iv p3, iv p4, iv p2, rv aP, .unset, .unset, .unset, .unset] [])) rfl (hb hby at_19) (by decide) (by decide)
    obtain ⟨b3, g3⟩ : ∃ z, z = h0.size := ⟨_, rfl⟩
    rw [← g3] at A3 D3 st3
    have sz_b3 : h0.size ≤ b3 := Nat.le_trans K0.1 (Nat.le_of_eq g3.symm)
    have g_b3 : n0 ≤ b3 := Nat.le_trans Z0 sz_b3
    have O_4 := O_0.ext E3
    have K3 := K0.ext E3
    have F_5 : Fld Z h3 b3 "com/example/clew/clew/algebra/Atom$ProperInstance" "scope" "Lcom/example/clew/clew/rdfs/Scope;" .null := D3 (Or.inr (hw _ (List.mem_of_getElem? (i := 23) rfl))) (ty := (.object "com/example/clew/clew/rdfs/Scope")) (by decide)
    have F_6 : Fld Z h3 b3 "com/example/clew/clew/algebra/Atom$ProperInstance" "cls" "I" (.int 0) := D3 (Or.inr (hw _ (List.mem_of_getElem? (i := 25) rfl))) (ty := .int) (by decide)
    have F_7 : Fld Z h3 b3 "com/example/clew/clew/algebra/Atom$ProperInstance" "resource" "I" (.int 0) := D3 (Or.inr (hw _ (List.mem_of_getElem? (i := 27) rfl))) (ty := .int) (by decide)
    refine Goes.on (fun t k => st3 t k) ?_
    show Goes p e below QQ (T3.setTop (mkF m 22 #[iv p1, iv p2, iv p3, iv p4, iv p2, rv aP, .unset, .unset, .unset, .unset] [(.ref b3)]))
    refine Goes.on (fun t k => XS.dup X3.here hx rfl (hb hby at_22) rfl rfl k) ?_
    show Goes p e below QQ (T3.setTop (mkF m 23 #[iv p1, iv p2, iv p3, iv p4, iv p2, rv aP, .unset, .unset, .unset, .unset] [(.ref b3), (.ref b3)]))
    refine Goes.on (fun t k => XS.aload X3.here hx rfl (hb hby at_23) rfl rfl k) ?_
    show Goes p e below QQ (T3.setTop (mkF m 25 #[iv p1, iv p2, iv p3, iv p4, iv p2, rv aP, .unset, .unset, .unset, .unset] [(.ref aP), (.ref b3), (.ref b3)]))
    refine Goes.on (fun t k => XS.iloadN X3.here hx rfl (hb hby at_25) rfl k) ?_
    show Goes p e below QQ (T3.setTop (mkF m 26 #[iv p1, iv p2, iv p3, iv p4, iv p2, rv aP, .unset, .unset, .unset, .unset] [(.int p1), (.ref aP), (.ref b3), (.ref b3)]))
    refine Goes.on (fun t k => XS.iload X3.here hx rfl (hb hby at_26) rfl k) ?_
    show Goes p e below QQ (T3.setTop (mkF m 28 #[iv p1, iv p2, iv p3, iv p4, iv p2, rv aP, .unset, .unset, .unset, .unset] [(.int p2), (.int p1), (.ref aP), (.ref b3), (.ref b3)]))
    obtain ⟨_, _, ⟨T8, L8, k8, n8⟩, -, X8, ⟨Lc8, hQ8, l8, y8, z8⟩, st8⟩ := X3.specialBack hx (y := (⟨"com/example/clew/clew/algebra/Atom$ProperInstance", "<init>", "(Lcom/example/clew/clew/rdfs/Scope;II)V"⟩ : MethodName)) rfl hown (mvT hZ (hw _ (List.mem_of_getElem? (i := 11) rfl))) (mvT hZ (hw _ (List.mem_of_getElem? (i := 12) rfl))) (mvT hZ (hw _ (List.mem_of_getElem? (i := 13) rfl))) (by decide) (backOf (W := 1) (rm2 l Z a0 hw [] b3 aP p1 p2 h3 n0 (Nat.le_trans Z0 K3.1) A3 F_5 F_6 F_7 g_b3) hZ (hw _ (List.mem_of_getElem? (i := 13) rfl)) (hw _ (List.mem_of_getElem? (i := 10) rfl)) (by decide) (by decide)) (g := (mkF m 28 #[iv p1, iv p2, iv p3, iv p4, iv p2, rv aP, .unset, .unset, .unset, .unset] [(.int p2), (.int p1), (.ref aP), (.ref b3), (.ref b3)])) rfl (by rw [hml]; rfl) (Steps.refl _) (a := b3) (argsL := [(.ref aP), (.int p1), (.int p2)]) (rest := [(.ref b3)]) (lenOf pd_2 rfl) rfl (by show 2 * 0 + _ ≤ _; exact Nat.le_of_eq rfl) (hb hby at_28) (fun _ _ => ⟨rfl, e3, (by decide : 1 + 0 ≤ _), (by decide : 3 + 0 ≤ _)⟩)
    dsimp only [Pt.U, Pt.locs, Pt.cells, Pt.slots] at X8 l8 y8 z8 st8 hQ8
    subst l8 y8 z8
    obtain ⟨rfl, M8, Kc, Fa, Fb⟩ := hQ8
    have N8 := Fr.app N2 M8
    refine Goes.on (fun t k => st8.trans k) ?_
    have O_9 := O_4.keep Kc (allS g_b3 all0)
    have A3_10 := A3.keep Kc
    have K14 := K3.trans Kc (allS (Or.inr sz_b3) all0)
    show Goes p e below QQ (T8.setTop (mkF m 31 #[iv p1, iv p2, iv p3, iv p4, iv p2, rv aP, .unset, .unset, .unset, .unset] [(.ref b3)]))
    refine Goes.on (fun t k => XS.astore X8.here hx rfl (hb hby at_31) rfl rfl (l' := #[iv p1, iv p2, iv p3, iv p4, iv p2, rv aP, rv b3, .unset, .unset, .unset]) rfl k) ?_
    show Goes p e below QQ (T8.setTop (mkF m 33 #[iv p1, iv p2, iv p3, iv p4, iv p2, rv aP, rv b3, .unset, .unset, .unset] []))
    refine Goes.on (fun t k => XS.aload X8.here hx rfl (hb hby at_33) rfl rfl k) ?_
    show Goes p e below QQ (T8.setTop (mkF m 35 #[iv p1, iv p2, iv p3, iv p4, iv p2, rv aP, rv b3, .unset, .unset, .unset] [(.ref b3)]))
    obtain ⟨cq15, kq15, q15a, q15b, q15c⟩ := isOf hZ rfl A3_10
    obtain ⟨_, _, ⟨T15, L15, k15, n15⟩, -, X15, ⟨Lc15, hQ15, l15, y15, z15⟩, st15⟩ := X8.virtualBack hx (y := (⟨"com/example/clew/clew/algebra/Atom$ProperInstance", "variables", "()[I"⟩ : MethodName)) (z := (⟨"com/example/clew/clew/algebra/Atom$ProperInstance", "variables", "()[I"⟩ : MethodName)) hown (mvT hZ (hw _ (List.mem_of_getElem? (i := 28) rfl))) (mvT hZ (hw _ (List.mem_of_getElem? (i := 29) rfl))) (notFace_of_selects (args := #[]) (mvT hZ (hw _ (List.mem_of_getElem? (i := 31) rfl)))) (mvT hZ (hw _ (List.mem_of_getElem? (i := 31) rfl))) (mvT hZ (hw _ (List.mem_of_getElem? (i := 30) rfl))) (by decide) (backOf (W := 0) (rm3 l Z a0 hw [] b3 p1 p2 T8.heap n0 (Nat.le_trans Z0 K14.1) Fa Fb) hZ (hw _ (List.mem_of_getElem? (i := 32) rfl)) (hw _ (List.mem_of_getElem? (i := 10) rfl)) (by decide) (by decide)) q15a q15c (g := (mkF m 35 #[iv p1, iv p2, iv p3, iv p4, iv p2, rv aP, rv b3, .unset, .unset, .unset] [(.ref b3)])) rfl (by rw [hml]; rfl) (Steps.refl _) (argsL := []) (rest := []) (lenOf pd_3 rfl) rfl (by show 2 * 0 + _ ≤ _; exact Nat.le_of_eq rfl) (hb hby at_35) (fun _ _ => ⟨rfl, rfl, (by decide : 1 + 1 ≤ _), (by decide : 3 + 2 ≤ _)⟩)
    dsimp only [Pt.U, Pt.locs, Pt.cells, Pt.slots] at X15 l15 y15 z15 st15 hQ15
    subst l15 y15 z15
    obtain ⟨b15, kb15, rfl, M15, Kc15, sz15, V_15⟩ := hQ15
    have sz_b15 : h0.size ≤ b15 := Nat.le_trans K14.1 sz15
    have g_b15 : n0 ≤ b15 := Nat.le_trans Z0 sz_b15
    have ne_b3_b15 : b3 ≠ b15 := Nat.ne_of_lt (Nat.lt_of_lt_of_le A3_10.lt sz15)
    have N15 := Fr.app N8 M15
    refine Goes.on (fun t k => st15.trans k) ?_
    have O_16 := O_9.keep Kc15 all0
    have A3_17 := A3_10.keep Kc15
    have Fa_18 := Fa.keep Kc15 nin0
    have Fb_19 := Fb.keep Kc15 nin0
    have K20 := K14.trans Kc15 all0
    show Goes p e below QQ (T15.setTop (mkF m 38 #[iv p1, iv p2, iv p3, iv p4, iv p2, rv aP, rv b3, .unset, .unset, .unset] [(.ref b15)]))
    refine Goes.on (fun t k => XS.astore X15.here hx rfl (hb hby at_38) rfl rfl (l' := #[iv p1, iv p2, iv p3, iv p4, iv p2, rv aP, rv b3, rv b15, .unset, .unset]) rfl k) ?_
    show Goes p e below QQ (T15.setTop (mkF m 40 #[iv p1, iv p2, iv p3, iv p4, iv p2, rv aP, rv b3, rv b15, .unset, .unset] []))
    refine Goes.on (fun t k => XS.aload X15.here hx rfl (hb hby at_40) rfl rfl k) ?_
    show Goes p e below QQ (T15.setTop (mkF m 42 #[iv p1, iv p2, iv p3, iv p4, iv p2, rv aP, rv b3, rv b15, .unset, .unset] [(.ref b15)]))
    refine Goes.on (fun t k => XS.ifnullNo X15.here hx rfl (hb hby at_42) rfl k) ?_
    show Goes p e below QQ (T15.setTop (mkF m 45 #[iv p1, iv p2, iv p3, iv p4, iv p2, rv aP, rv b3, rv b15, .unset, .unset] []))
    refine Goes.on (fun t k => XS.aload X15.here hx rfl (hb hby at_45) rfl rfl k) ?_
    show Goes p e below QQ (T15.setTop (mkF m 47 #[iv p1, iv p2, iv p3, iv p4, iv p2, rv aP, rv b3, rv b15, .unset, .unset] [(.ref b15)]))
    obtain ⟨cl21, Ar21, q21, S21, N21z, H21, G21⟩ := id V_15
    refine Goes.on (fun t k => X15.arraylength hx Ar21.1 (State.isArrayOf_alike hZ.alike Ar21.2.1) (g := (mkF m 47 #[iv p1, iv p2, iv p3, iv p4, iv p2, rv aP, rv b3, rv b15, .unset, .unset] [(.ref b15)])) rfl rfl (hb hby at_47) t k) ?_
    rw [len_of S21 N21z]
    show Goes p e below QQ (T15.setTop (mkF m 48 #[iv p1, iv p2, iv p3, iv p4, iv p2, rv aP, rv b3, rv b15, .unset, .unset] [(.int 2)]))
    refine Goes.on (fun t k => XS.iconst X15.here hx rfl (hb hby at_48) k) ?_
    show Goes p e below QQ (T15.setTop (mkF m 49 #[iv p1, iv p2, iv p3, iv p4, iv p2, rv aP, rv b3, rv b15, .unset, .unset] [(.int 2), (.int 2)]))
    refine Goes.on (fun t k => XS.icmpYes X15.here hx rfl (pc0 := 49) (pc' := 54) rfl (hb hby at_49) rfl (teq (by decide)).1 (by decide) (by decide) k) ?_
    show Goes p e below QQ (T15.setTop (mkF m 54 #[iv p1, iv p2, iv p3, iv p4, iv p2, rv aP, rv b3, rv b15, .unset, .unset] []))
    refine Goes.on (fun t k => XS.aload X15.here hx rfl (hb hby at_54) rfl rfl k) ?_
    show Goes p e below QQ (T15.setTop (mkF m 56 #[iv p1, iv p2, iv p3, iv p4, iv p2, rv aP, rv b3, rv b15, .unset, .unset] [(.ref b15)]))
    refine Goes.on (fun t k => XS.iconst X15.here hx rfl (hb hby at_56) k) ?_
    show Goes p e below QQ (T15.setTop (mkF m 57 #[iv p1, iv p2, iv p3, iv p4, iv p2, rv aP, rv b3, rv b15, .unset, .unset] [(.int 0), (.ref b15)]))
    obtain ⟨cl22, Ar22, q22, S22, N22z, H22, G22⟩ := id V_15
    have hin22 := inb_of (j := (0 : Int32)) S22 ⟨by decide, by decide⟩
    have hat22 := Has.at (v := (.int p1)) H22 hin22 rfl
    refine Goes.on (fun t k => X15.iaload hx (j := (0 : Int32)) (v := (.int p1)) Ar22.1 (State.isArrayOf_alike hZ.alike Ar22.2.1) Ar22.2.2 hin22 hat22 (g := (mkF m 57 #[iv p1, iv p2, iv p3, iv p4, iv p2, rv aP, rv b3, rv b15, .unset, .unset] [(.int 0), (.ref b15)])) rfl rfl (hb hby at_57) t k) ?_
    show Goes p e below QQ (T15.setTop (mkF m 58 #[iv p1, iv p2, iv p3, iv p4, iv p2, rv aP, rv b3, rv b15, .unset, .unset] [(.int p1)]))
    refine Goes.on (fun t k => XS.iloadN X15.here hx rfl (hb hby at_58) rfl k) ?_
    show Goes p e below QQ (T15.setTop (mkF m 59 #[iv p1, iv p2, iv p3, iv p4, iv p2, rv aP, rv b3, rv b15, .unset, .unset] [(.int p1), (.int p1)]))
    refine Goes.on (fun t k => XS.icmpNo X15.here hx rfl (hb hby at_59) rfl (teq (rfl : p1 = p1)).2 k) ?_
    show Goes p e below QQ (T15.setTop (mkF m 62 #[iv p1, iv p2, iv p3, iv p4, iv p2, rv aP, rv b3, rv b15, .unset, .unset] []))
    refine Goes.on (fun t k => XS.aload X15.here hx rfl (hb hby at_62) rfl rfl k) ?_
    show Goes p e below QQ (T15.setTop (mkF m 64 #[iv p1, iv p2, iv p3, iv p4, iv p2, rv aP, rv b3, rv b15, .unset, .unset] [(.ref b15)]))
    refine Goes.on (fun t k => XS.iconst X15.here hx rfl (hb hby at_64) k) ?_
    show Goes p e below QQ (T15.setTop (mkF m 65 #[iv p1, iv p2, iv p3, iv p4, iv p2, rv aP, rv b3, rv b15, .unset, .unset] [(.int 1), (.ref b15)]))
    obtain ⟨cl23, Ar23, q23, S23, N23z, H23, G23⟩ := id V_15
    have hin23 := inb_of (j := (1 : Int32)) S23 ⟨by decide, by decide⟩
    have hat23 := Has.at (v := (.int p2)) H23 hin23 rfl
    refine Goes.on (fun t k => X15.iaload hx (j := (1 : Int32)) (v := (.int p2)) Ar23.1 (State.isArrayOf_alike hZ.alike Ar23.2.1) Ar23.2.2 hin23 hat23 (g := (mkF m 65 #[iv p1, iv p2, iv p3, iv p4, iv p2, rv aP, rv b3, rv b15, .unset, .unset] [(.int 1), (.ref b15)])) rfl rfl (hb hby at_65) t k) ?_
    show Goes p e below QQ (T15.setTop (mkF m 66 #[iv p1, iv p2, iv p3, iv p4, iv p2, rv aP, rv b3, rv b15, .unset, .unset] [(.int p2)]))
    refine Goes.on (fun t k => XS.iload X15.here hx rfl (hb hby at_66) rfl k) ?_
    show Goes p e below QQ (T15.setTop (mkF m 68 #[iv p1, iv p2, iv p3, iv p4, iv p2, rv aP, rv b3, rv b15, .unset, .unset] [(.int p2), (.int p2)]))
    refine Goes.on (fun t k => XS.icmpNo X15.here hx rfl (hb hby at_68) rfl (teq (rfl : p2 = p2)).2 k) ?_
    show Goes p e below QQ (T15.setTop (mkF m 71 #[iv p1, iv p2, iv p3, iv p4, iv p2, rv aP, rv b3, rv b15, .unset, .unset] []))
    refine Goes.on (fun t k => XS.iconst X15.here hx rfl (hb hby at_71) k) ?_
    show Goes p e below QQ (T15.setTop (mkF m 72 #[iv p1, iv p2, iv p3, iv p4, iv p2, rv aP, rv b3, rv b15, .unset, .unset] [(.int 1)]))
    refine Goes.on (fun t k => XS.goto X15.here hx rfl (pc0 := 72) (pc' := 76) rfl (hb hby at_72) (by decide) (by decide) k) ?_
    show Goes p e below QQ (T15.setTop (mkF m 76 #[iv p1, iv p2, iv p3, iv p4, iv p2, rv aP, rv b3, rv b15, .unset, .unset] [(.int 1)]))
    refine Goes.on (fun t k => XS.istore X15.here hx rfl (hb hby at_76) rfl (l' := #[iv p1, iv p2, iv p3, iv p4, iv p2, rv aP, rv b3, rv b15, iv 1, .unset]) rfl k) ?_
    show Goes p e below QQ (T15.setTop (mkF m 78 #[iv p1, iv p2, iv p3, iv p4, iv p2, rv aP, rv b3, rv b15, iv 1, .unset] []))
    refine Goes.on (fun t k => XS.aload X15.here hx rfl (hb hby at_78) rfl rfl k) ?_
    show Goes p e below QQ (T15.setTop (mkF m 80 #[iv p1, iv p2, iv p3, iv p4, iv p2, rv aP, rv b3, rv b15, iv 1, .unset] [(.ref b15)]))
    refine Goes.on (fun t k => XS.iconst X15.here hx rfl (hb hby at_80) k) ?_
    show Goes p e below QQ (T15.setTop (mkF m 81 #[iv p1, iv p2, iv p3, iv p4, iv p2, rv aP, rv b3, rv b15, iv 1, .unset] [(.int 0), (.ref b15)]))
    refine Goes.on (fun t k => XS.iloadN X15.here hx rfl (hb hby at_81) rfl k) ?_
    show Goes p e below QQ (T15.setTop (mkF m 82 #[iv p1, iv p2, iv p3, iv p4, iv p2, rv aP, rv b3, rv b15, iv 1, .unset] [(.int p1), (.int 0), (.ref b15)]))
    refine Goes.on (fun t k => XS.iconst X15.here hx rfl (hb hby at_82) k) ?_
    show Goes p e below QQ (T15.setTop (mkF m 83 #[iv p1, iv p2, iv p3, iv p4, iv p2, rv aP, rv b3, rv b15, iv 1, .unset] [(.int (-1)), (.int p1), (.int 0), (.ref b15)]))
    refine Goes.on (fun t k => XS.ixor X15.here hx rfl (hb hby at_83) rfl k) ?_
    show Goes p e below QQ (T15.setTop (mkF m 84 #[iv p1, iv p2, iv p3, iv p4, iv p2, rv aP, rv b3, rv b15, iv 1, .unset] [(.int (p1 ^^^ (-1 : Int32))), (.int 0), (.ref b15)]))
    obtain ⟨cl24, Ar24, q24, S24, N24z, H24, G24⟩ := id V_15
    have hin24 := inb_of (j := (0 : Int32)) S24 ⟨by decide, by decide⟩
    obtain ⟨T25, h25, X25, e25, W25, st25⟩ := stI X15 hx hZ rfl Ar24 (j := (0 : Int32)) hin24 (g := (mkF m 84 #[iv p1, iv p2, iv p3, iv p4, iv p2, rv aP, rv b3, rv b15, iv 1, .unset] [(.int (p1 ^^^ (-1 : Int32))), (.int 0), (.ref b15)])) rfl rfl (hb hby at_84)
    have O_26 := O_16.wr W25 g_b15
    have A3_27 := A3_17.wr W25
    have Fa_28 := Fa_18.other W25 (Or.inl ne_b3_b15)
    have Fb_29 := Fb_19.other W25 (Or.inl ne_b3_b15)
    have K25 := K20.wr W25 (Or.inr sz_b15)
    have N25 := Fr.snoc X25 N15 g_b15
    have V_30 := (Arv.set Ar24 q24 S24 N24z H24 G24 rfl W25 0 rfl (Nat.le_of_ble_eq_true rfl) : Arv Z h25 b15 kb15 .int (2 : Int32) [(.int (p1 ^^^ (-1 : Int32))), (.int p2)] (.int 0))
    refine Goes.on (fun t k => st25 t k) ?_
    show Goes p e below QQ (T25.setTop (mkF m 85 #[iv p1, iv p2, iv p3, iv p4, iv p2, rv aP, rv b3, rv b15, iv 1, .unset] []))
    refine Goes.on (fun t k => XS.aload X25.here hx rfl (hb hby at_85) rfl rfl k) ?_
    show Goes p e below QQ (T25.setTop (mkF m 87 #[iv p1, iv p2, iv p3, iv p4, iv p2, rv aP, rv b3, rv b15, iv 1, .unset] [(.ref b15)]))
    refine Goes.on (fun t k => XS.iconst X25.here hx rfl (hb hby at_87) k) ?_
    show Goes p e below QQ (T25.setTop (mkF m 88 #[iv p1, iv p2, iv p3, iv p4, iv p2, rv aP, rv b3, rv b15, iv 1, .unset] [(.int 1), (.ref b15)]))
    refine Goes.on (fun t k => XS.iload X25.here hx rfl (hb hby at_88) rfl k) ?_
    show Goes p e below QQ (T25.setTop (mkF m 90 #[iv p1, iv p2, iv p3, iv p4, iv p2, rv aP, rv b3, rv b15, iv 1, .unset] [(.int p2), (.int 1), (.ref b15)]))
    refine Goes.on (fun t k => XS.iconst X25.here hx rfl (hb hby at_90) k) ?_
    show Goes p e below QQ (T25.setTop (mkF m 91 #[iv p1, iv p2, iv p3, iv p4, iv p2, rv aP, rv b3, rv b15, iv 1, .unset] [(.int (-1)), (.int p2), (.int 1), (.ref b15)]))
    refine Goes.on (fun t k => XS.ixor X25.here hx rfl (hb hby at_91) rfl k) ?_
    show Goes p e below QQ (T25.setTop (mkF m 92 #[iv p1, iv p2, iv p3, iv p4, iv p2, rv aP, rv b3, rv b15, iv 1, .unset] [(.int (p2 ^^^ (-1 : Int32))), (.int 1), (.ref b15)]))
    obtain ⟨cl31, Ar31, q31, S31, N31z, H31, G31⟩ := id V_30
    have hin31 := inb_of (j := (1 : Int32)) S31 ⟨by decide, by decide⟩
    obtain ⟨T32, h32, X32, e32, W32, st32⟩ := stI X25 hx hZ e25 Ar31 (j := (1 : Int32)) hin31 (g := (mkF m 92 #[iv p1, iv p2, iv p3, iv p4, iv p2, rv aP, rv b3, rv b15, iv 1, .unset] [(.int (p2 ^^^ (-1 : Int32))), (.int 1), (.ref b15)])) rfl rfl (hb hby at_92)
    have O_33 := O_26.wr W32 g_b15
    have A3_34 := A3_27.wr W32
    have Fa_35 := Fa_28.other W32 (Or.inl ne_b3_b15)
    have Fb_36 := Fb_29.other W32 (Or.inl ne_b3_b15)
    have K32 := K25.wr W32 (Or.inr sz_b15)
    have N32 := Fr.snoc X32 N25 g_b15
    have V_37 := (Arv.set Ar31 q31 S31 N31z H31 G31 rfl W32 1 rfl (Nat.le_of_ble_eq_true rfl) : Arv Z h32 b15 kb15 .int (2 : Int32) [(.int (p1 ^^^ (-1 : Int32))), (.int (p2 ^^^ (-1 : Int32)))] (.int 0))
    refine Goes.on (fun t k => st32 t k) ?_
    show Goes p e below QQ (T32.setTop (mkF m 93 #[iv p1, iv p2, iv p3, iv p4, iv p2, rv aP, rv b3, rv b15, iv 1, .unset] []))
    refine Goes.on (fun t k => XS.aload X32.here hx rfl (hb hby at_93) rfl rfl k) ?_
    show Goes p e below QQ (T32.setTop (mkF m 95 #[iv p1, iv p2, iv p3, iv p4, iv p2, rv aP, rv b3, rv b15, iv 1, .unset] [(.ref b3)]))
    obtain ⟨cq38, kq38, q38a, q38b, q38c⟩ := isOf hZ e32 A3_34
    obtain ⟨_, _, ⟨T38, L38, k38, n38⟩, -, X38, ⟨Lc38, hQ38, l38, y38, z38⟩, st38⟩ := X32.virtualBack hx (y := (⟨"com/example/clew/clew/algebra/Atom$ProperInstance", "variables", "()[I"⟩ : MethodName)) (z := (⟨"com/example/clew/clew/algebra/Atom$ProperInstance", "variables", "()[I"⟩ : MethodName)) hown (mvT hZ (hw _ (List.mem_of_getElem? (i := 28) rfl))) (mvT hZ (hw _ (List.mem_of_getElem? (i := 29) rfl))) (notFace_of_selects (args := #[]) (mvT hZ (hw _ (List.mem_of_getElem? (i := 31) rfl)))) (mvT hZ (hw _ (List.mem_of_getElem? (i := 31) rfl))) (mvT hZ (hw _ (List.mem_of_getElem? (i := 30) rfl))) (by decide) (backOf (W := 0) (rm3 l Z a0 hw [] b3 p1 p2 h32 n0 (Nat.le_trans Z0 K32.1) Fa_35 Fb_36) hZ (hw _ (List.mem_of_getElem? (i := 32) rfl)) (hw _ (List.mem_of_getElem? (i := 10) rfl)) (by decide) (by decide)) q38a q38c (g := (mkF m 95 #[iv p1, iv p2, iv p3, iv p4, iv p2, rv aP, rv b3, rv b15, iv 1, .unset] [(.ref b3)])) rfl (by rw [hml]; rfl) (Steps.refl _) (argsL := []) (rest := []) (lenOf pd_3 rfl) rfl (by show 2 * 0 + _ ≤ _; exact Nat.le_of_eq rfl) (hb hby at_95) (fun _ _ => ⟨rfl, e32, (by decide : 2 + 1 ≤ _), (by decide : 5 + 2 ≤ _)⟩)
    dsimp only [Pt.U, Pt.locs, Pt.cells, Pt.slots] at X38 l38 y38 z38 st38 hQ38
    subst l38 y38 z38
    obtain ⟨b38, kb38, rfl, M38, Kc38, sz38, V_38⟩ := hQ38
    have sz_b38 : h0.size ≤ b38 := Nat.le_trans K32.1 sz38
    have g_b38 : n0 ≤ b38 := Nat.le_trans Z0 sz_b38
    have ne_b3_b38 : b3 ≠ b38 := Nat.ne_of_lt (Nat.lt_of_lt_of_le A3_34.lt sz38)
    have ne_b15_b38 : b15 ≠ b38 := Nat.ne_of_lt (Nat.lt_of_lt_of_le V_37.lt sz38)
    have N38 := Fr.app N32 M38
    refine Goes.on (fun t k => st38.trans k) ?_
    have O_39 := O_33.keep Kc38 all0
    have A3_40 := A3_34.keep Kc38
    have Fa_41 := Fa_35.keep Kc38 nin0
    have Fb_42 := Fb_36.keep Kc38 nin0
    have V_43 := V_37.keep Kc38 nin0
    have K44 := K32.trans Kc38 all0
    show Goes p e below QQ (T38.setTop (mkF m 98 #[iv p1, iv p2, iv p3, iv p4, iv p2, rv aP, rv b3, rv b15, iv 1, .unset] [(.ref b38)]))
    refine Goes.on (fun t k => XS.astore X38.here hx rfl (hb hby at_98) rfl rfl (l' := #[iv p1, iv p2, iv p3, iv p4, iv p2, rv aP, rv b3, rv b15, iv 1, rv b38]) rfl k) ?_
    show Goes p e below QQ (T38.setTop (mkF m 100 #[iv p1, iv p2, iv p3, iv p4, iv p2, rv aP, rv b3, rv b15, iv 1, rv b38] []))
    refine Goes.on (fun t k => XS.aload X38.here hx rfl (hb hby at_100) rfl rfl k) ?_
    show Goes p e below QQ (T38.setTop (mkF m 102 #[iv p1, iv p2, iv p3, iv p4, iv p2, rv aP, rv b3, rv b15, iv 1, rv b38] [(.ref b38)]))
    refine Goes.on (fun t k => XS.ifnullNo X38.here hx rfl (hb hby at_102) rfl k) ?_
    show Goes p e below QQ (T38.setTop (mkF m 105 #[iv p1, iv p2, iv p3, iv p4, iv p2, rv aP, rv b3, rv b15, iv 1, rv b38] []))
    refine Goes.on (fun t k => XS.aload X38.here hx rfl (hb hby at_105) rfl rfl k) ?_
    show Goes p e below QQ (T38.setTop (mkF m 107 #[iv p1, iv p2, iv p3, iv p4, iv p2, rv aP, rv b3, rv b15, iv 1, rv b38] [(.ref b38)]))
    obtain ⟨cl45, Ar45, q45, S45, N45z, H45, G45⟩ := id V_38
    refine Goes.on (fun t k => X38.arraylength hx Ar45.1 (State.isArrayOf_alike hZ.alike Ar45.2.1) (g := (mkF m 107 #[iv p1, iv p2, iv p3, iv p4, iv p2, rv aP, rv b3, rv b15, iv 1, rv b38] [(.ref b38)])) rfl rfl (hb hby at_107) t k) ?_
    rw [len_of S45 N45z]
    show Goes p e below QQ (T38.setTop (mkF m 108 #[iv p1, iv p2, iv p3, iv p4, iv p2, rv aP, rv b3, rv b15, iv 1, rv b38] [(.int 2)]))
    refine Goes.on (fun t k => XS.iconst X38.here hx rfl (hb hby at_108) k) ?_
    show Goes p e below QQ (T38.setTop (mkF m 109 #[iv p1, iv p2, iv p3, iv p4, iv p2, rv aP, rv b3, rv b15, iv 1, rv b38] [(.int 2), (.int 2)]))
    refine Goes.on (fun t k => XS.icmpYes X38.here hx rfl (pc0 := 109) (pc' := 114) rfl (hb hby at_109) rfl (teq (by decide)).1 (by decide) (by decide) k) ?_
    show Goes p e below QQ (T38.setTop (mkF m 114 #[iv p1, iv p2, iv p3, iv p4, iv p2, rv aP, rv b3, rv b15, iv 1, rv b38] []))
    refine Goes.on (fun t k => XS.iload X38.here hx rfl (hb hby at_114) rfl k) ?_
    show Goes p e below QQ (T38.setTop (mkF m 116 #[iv p1, iv p2, iv p3, iv p4, iv p2, rv aP, rv b3, rv b15, iv 1, rv b38] [(.int 1)]))
    refine Goes.on (fun t k => XS.ifNo X38.here hx rfl (hb hby at_116) rfl ((if0 _ _).trans (feq (by decide)).1) k) ?_
    show Goes p e below QQ (T38.setTop (mkF m 119 #[iv p1, iv p2, iv p3, iv p4, iv p2, rv aP, rv b3, rv b15, iv 1, rv b38] []))
    refine Goes.on (fun t k => XS.aload X38.here hx rfl (hb hby at_119) rfl rfl k) ?_
    show Goes p e below QQ (T38.setTop (mkF m 121 #[iv p1, iv p2, iv p3, iv p4, iv p2, rv aP, rv b3, rv b15, iv 1, rv b38] [(.ref b38)]))
    refine Goes.on (fun t k => XS.iconst X38.here hx rfl (hb hby at_121) k) ?_
    show Goes p e below QQ (T38.setTop (mkF m 122 #[iv p1, iv p2, iv p3, iv p4, iv p2, rv aP, rv b3, rv b15, iv 1, rv b38] [(.int 0), (.ref b38)]))
    obtain ⟨cl46, Ar46, q46, S46, N46z, H46, G46⟩ := id V_38
    have hin46 := inb_of (j := (0 : Int32)) S46 ⟨by decide, by decide⟩
    have hat46 := Has.at (v := (.int p1)) H46 hin46 rfl
    refine Goes.on (fun t k => X38.iaload hx (j := (0 : Int32)) (v := (.int p1)) Ar46.1 (State.isArrayOf_alike hZ.alike Ar46.2.1) Ar46.2.2 hin46 hat46 (g := (mkF m 122 #[iv p1, iv p2, iv p3, iv p4, iv p2, rv aP, rv b3, rv b15, iv 1, rv b38] [(.int 0), (.ref b38)])) rfl rfl (hb hby at_122) t k) ?_
    show Goes p e below QQ (T38.setTop (mkF m 123 #[iv p1, iv p2, iv p3, iv p4, iv p2, rv aP, rv b3, rv b15, iv 1, rv b38] [(.int p1)]))
    refine Goes.on (fun t k => XS.iloadN X38.here hx rfl (hb hby at_123) rfl k) ?_
    show Goes p e below QQ (T38.setTop (mkF m 124 #[iv p1, iv p2, iv p3, iv p4, iv p2, rv aP, rv b3, rv b15, iv 1, rv b38] [(.int p1), (.int p1)]))
    refine Goes.on (fun t k => XS.icmpNo X38.here hx rfl (hb hby at_124) rfl (teq (rfl : p1 = p1)).2 k) ?_
    show Goes p e below QQ (T38.setTop (mkF m 127 #[iv p1, iv p2, iv p3, iv p4, iv p2, rv aP, rv b3, rv b15, iv 1, rv b38] []))
    refine Goes.on (fun t k => XS.aload X38.here hx rfl (hb hby at_127) rfl rfl k) ?_
    show Goes p e below QQ (T38.setTop (mkF m 129 #[iv p1, iv p2, iv p3, iv p4, iv p2, rv aP, rv b3, rv b15, iv 1, rv b38] [(.ref b38)]))
    refine Goes.on (fun t k => XS.iconst X38.here hx rfl (hb hby at_129) k) ?_
    show Goes p e below QQ (T38.setTop (mkF m 130 #[iv p1, iv p2, iv p3, iv p4, iv p2, rv aP, rv b3, rv b15, iv 1, rv b38] [(.int 1), (.ref b38)]))
    obtain ⟨cl47, Ar47, q47, S47, N47z, H47, G47⟩ := id V_38
    have hin47 := inb_of (j := (1 : Int32)) S47 ⟨by decide, by decide⟩
    have hat47 := Has.at (v := (.int p2)) H47 hin47 rfl
    refine Goes.on (fun t k => X38.iaload hx (j := (1 : Int32)) (v := (.int p2)) Ar47.1 (State.isArrayOf_alike hZ.alike Ar47.2.1) Ar47.2.2 hin47 hat47 (g := (mkF m 130 #[iv p1, iv p2, iv p3, iv p4, iv p2, rv aP, rv b3, rv b15, iv 1, rv b38] [(.int 1), (.ref b38)])) rfl rfl (hb hby at_130) t k) ?_
    show Goes p e below QQ (T38.setTop (mkF m 131 #[iv p1, iv p2, iv p3, iv p4, iv p2, rv aP, rv b3, rv b15, iv 1, rv b38] [(.int p2)]))
    refine Goes.on (fun t k => XS.iload X38.here hx rfl (hb hby at_131) rfl k) ?_
    show Goes p e below QQ (T38.setTop (mkF m 133 #[iv p1, iv p2, iv p3, iv p4, iv p2, rv aP, rv b3, rv b15, iv 1, rv b38] [(.int p2), (.int p2)]))
    refine Goes.on (fun t k => XS.icmpNo X38.here hx rfl (hb hby at_133) rfl (teq (rfl : p2 = p2)).2 k) ?_
    show Goes p e below QQ (T38.setTop (mkF m 136 #[iv p1, iv p2, iv p3, iv p4, iv p2, rv aP, rv b3, rv b15, iv 1, rv b38] []))
    refine Goes.on (fun t k => XS.iconst X38.here hx rfl (hb hby at_136) k) ?_
    show Goes p e below QQ (T38.setTop (mkF m 137 #[iv p1, iv p2, iv p3, iv p4, iv p2, rv aP, rv b3, rv b15, iv 1, rv b38] [(.int 1)]))
    refine Goes.on (fun t k => XS.goto X38.here hx rfl (pc0 := 137) (pc' := 141) rfl (hb hby at_137) (by decide) (by decide) k) ?_
    show Goes p e below QQ (T38.setTop (mkF m 141 #[iv p1, iv p2, iv p3, iv p4, iv p2, rv aP, rv b3, rv b15, iv 1, rv b38] [(.int 1)]))
    exact Goes.rN X38 hx (t := .boolean) hret (by simp) hlk (hb hby at_141) hQQ ⟨rfl, N38⟩ (by decide) (by decide)
  · refine Goes.on (fun t k => XS.ifNo X0.here hx rfl (hb hby at_3) rfl ((if0 _ _).trans (feq hb1).1) k) ?_
    show Goes p e below QQ (s₁.setTop (mkF m 6 #[iv p1, iv p2, iv p3, iv p4, .unset, .unset, .unset, .unset, .unset, .unset] []))
    refine Goes.on (fun t k => XS.iloadN X0.here hx rfl (hb hby at_6) rfl k) ?_
    show Goes p e below QQ (s₁.setTop (mkF m 7 #[iv p1, iv p2, iv p3, iv p4, .unset, .unset, .unset, .unset, .unset, .unset] [(.int p1)]))
    refine Goes.on (fun t k => XS.goto X0.here hx rfl (pc0 := 7) (pc' := 11) rfl (hb hby at_7) (by decide) (by decide) k) ?_
    show Goes p e below QQ (s₁.setTop (mkF m 11 #[iv p1, iv p2, iv p3, iv p4, .unset, .unset, .unset, .unset, .unset, .unset] [(.int p1)]))
    refine Goes.on (fun t k => XS.istore X0.here hx rfl (hb hby at_11) rfl (l' := #[iv p1, iv p2, iv p3, iv p4, iv p1, .unset, .unset, .unset, .unset, .unset]) rfl k) ?_
    show Goes p e below QQ (s₁.setTop (mkF m 13 #[iv p1, iv p2, iv p3, iv p4, iv p1, .unset, .unset, .unset, .unset, .unset] []))
    refine Goes.on (fun t k => XS.iloadN X0.here hx rfl (hb hby at_13) rfl k) ?_
    show Goes p e below QQ (s₁.setTop (mkF m 14 #[iv p1, iv p2, iv p3, iv p4, iv p1, .unset, .unset, .unset, .unset, .unset] [(.int p3)]))
    obtain ⟨_, _, ⟨T48, L48, k48, n48⟩, -, X48, ⟨Lc48, hQ48, l48, y48, z48⟩, st48⟩ := Jvm.LawKit.callS X0 hx (y := (⟨"com/example/clew/clew/algebra/ProperInstanceVariablesPinLaw", "pick", "(I)Lcom/example/clew/clew/rdfs/Scope;"⟩ : MethodName)) hown (mvT hZ (hw _ (List.mem_of_getElem? (i := 0) rfl))) (mvT hZ (hw _ (List.mem_of_getElem? (i := 1) rfl))) (mvT hZ (hw _ (List.mem_of_getElem? (i := 2) rfl))) (mvT hZ (hw _ (List.mem_of_getElem? (i := 3) rfl))) (by decide) (backOf (W := 0) (rm1 l Z a0 hw [] p3 x0 x1 x2 x3 x4 h0 n0 (Nat.le_trans Z0 K0.1) S_CLASSES S_TYPES S_METACLASSES S_LITERAL_TYPES S_ANY O_0) hZ (hw _ (List.mem_of_getElem? (i := 3) rfl)) (hw _ (List.mem_of_getElem? (i := 2) rfl)) (by decide) (by decide)) (g := (mkF m 14 #[iv p1, iv p2, iv p3, iv p4, iv p1, .unset, .unset, .unset, .unset, .unset] [(.int p3)])) rfl (by rw [hml]; rfl) (argsL := [(.int p3)]) (rest := []) (lenOf pd_1 rfl) rfl (by show 2 * 0 + _ ≤ _; exact Nat.le_of_eq rfl) (hb hby at_14) (fun _ _ => ⟨rfl, e0, (by decide : 0 + 0 ≤ _), (by decide : 0 + 0 ≤ _)⟩)
    dsimp only [Pt.U, Pt.locs, Pt.cells, Pt.slots] at X48 l48 y48 z48 st48 hQ48
    subst l48 y48 z48
    obtain ⟨rfl, M48, e48⟩ := hQ48
    have N48 := Fr.app N0 M48
    refine Goes.on (fun t k => st48 _ k) ?_
    show Goes p e below QQ (T48.setTop (mkF m 17 #[iv p1, iv p2, iv p3, iv p4, iv p1, .unset, .unset, .unset, .unset, .unset] [(.ref (pickA p3 x0 x1 x2 x3 x4))]))
    generalize hpk : (pickA p3 x0 x1 x2 x3 x4) = aP
    show Goes p e below QQ (T48.setTop (mkF m 17 #[iv p1, iv p2, iv p3, iv p4, iv p1, .unset, .unset, .unset, .unset, .unset] [(.ref aP)]))
    refine Goes.on (fun t k => XS.astore X48.here hx rfl (hb hby at_17) rfl rfl (l' := #[iv p1, iv p2, iv p3, iv p4, iv p1, rv aP, .unset, .unset, .unset, .unset]) rfl k) ?_
    show Goes p e below QQ (T48.setTop (mkF m 19 #[iv p1, iv p2, iv p3, iv p4, iv p1, rv aP, .unset, .unset, .unset, .unset] []))
    obtain ⟨T49, h49, X49, e49, E49, A49, D49, -, st49⟩ := newO X48 hx hZ hown (hw _ (List.mem_of_getElem? (i := 8) rfl)) (hw _ (List.mem_of_getElem? (i := 9) rfl)) (hw _ (List.mem_of_getElem? (i := 10) rfl)) e48 (g := (mkF m 19 #[iv p1, iv p2, iv p3, iv p4, iv p1, rv aP, .unset, .unset, .unset, .unset] [])) rfl (hb hby at_19) (by decide) (by decide)
    obtain ⟨b49, g49⟩ : ∃ z, z = h0.size := ⟨_, rfl⟩
    rw [← g49] at A49 D49 st49
    have sz_b49 : h0.size ≤ b49 := Nat.le_trans K0.1 (Nat.le_of_eq g49.symm)
    have g_b49 : n0 ≤ b49 := Nat.le_trans Z0 sz_b49
    have O_50 := O_0.ext E49
    have K49 := K0.ext E49
    have F_51 : Fld Z h49 b49 "com/example/clew/clew/algebra/Atom$ProperInstance" "scope" "Lcom/example/clew/clew/rdfs/Scope;" .null := D49 (Or.inr (hw _ (List.mem_of_getElem? (i := 23) rfl))) (ty := (.object "com/example/clew/clew/rdfs/Scope")) (by decide)
    have F_52 : Fld Z h49 b49 "com/example/clew/clew/algebra/Atom$ProperInstance" "cls" "I" (.int 0) := D49 (Or.inr (hw _ (List.mem_of_getElem? (i := 25) rfl))) (ty := .int) (by decide)
    have F_53 : Fld Z h49 b49 "com/example/clew/clew/algebra/Atom$ProperInstance" "resource" "I" (.int 0) := D49 (Or.inr (hw _ (List.mem_of_getElem? (i := 27) rfl))) (ty := .int) (by decide)
    refine Goes.on (fun t k => st49 t k) ?_
    show Goes p e below QQ (T49.setTop (mkF m 22 #[iv p1, iv p2, iv p3, iv p4, iv p1, rv aP, .unset, .unset, .unset, .unset] [(.ref b49)]))
    refine Goes.on (fun t k => XS.dup X49.here hx rfl (hb hby at_22) rfl rfl k) ?_
    show Goes p e below QQ (T49.setTop (mkF m 23 #[iv p1, iv p2, iv p3, iv p4, iv p1, rv aP, .unset, .unset, .unset, .unset] [(.ref b49), (.ref b49)]))
    refine Goes.on (fun t k => XS.aload X49.here hx rfl (hb hby at_23) rfl rfl k) ?_
    show Goes p e below QQ (T49.setTop (mkF m 25 #[iv p1, iv p2, iv p3, iv p4, iv p1, rv aP, .unset, .unset, .unset, .unset] [(.ref aP), (.ref b49), (.ref b49)]))
    refine Goes.on (fun t k => XS.iloadN X49.here hx rfl (hb hby at_25) rfl k) ?_
    show Goes p e below QQ (T49.setTop (mkF m 26 #[iv p1, iv p2, iv p3, iv p4, iv p1, rv aP, .unset, .unset, .unset, .unset] [(.int p1), (.ref aP), (.ref b49), (.ref b49)]))
    refine Goes.on (fun t k => XS.iload X49.here hx rfl (hb hby at_26) rfl k) ?_
    show Goes p e below QQ (T49.setTop (mkF m 28 #[iv p1, iv p2, iv p3, iv p4, iv p1, rv aP, .unset, .unset, .unset, .unset] [(.int p1), (.int p1), (.ref aP), (.ref b49), (.ref b49)]))
    obtain ⟨_, _, ⟨T54, L54, k54, n54⟩, -, X54, ⟨Lc54, hQ54, l54, y54, z54⟩, st54⟩ := X49.specialBack hx (y := (⟨"com/example/clew/clew/algebra/Atom$ProperInstance", "<init>", "(Lcom/example/clew/clew/rdfs/Scope;II)V"⟩ : MethodName)) rfl hown (mvT hZ (hw _ (List.mem_of_getElem? (i := 11) rfl))) (mvT hZ (hw _ (List.mem_of_getElem? (i := 12) rfl))) (mvT hZ (hw _ (List.mem_of_getElem? (i := 13) rfl))) (by decide) (backOf (W := 1) (rm2 l Z a0 hw [] b49 aP p1 p1 h49 n0 (Nat.le_trans Z0 K49.1) A49 F_51 F_52 F_53 g_b49) hZ (hw _ (List.mem_of_getElem? (i := 13) rfl)) (hw _ (List.mem_of_getElem? (i := 10) rfl)) (by decide) (by decide)) (g := (mkF m 28 #[iv p1, iv p2, iv p3, iv p4, iv p1, rv aP, .unset, .unset, .unset, .unset] [(.int p1), (.int p1), (.ref aP), (.ref b49), (.ref b49)])) rfl (by rw [hml]; rfl) (Steps.refl _) (a := b49) (argsL := [(.ref aP), (.int p1), (.int p1)]) (rest := [(.ref b49)]) (lenOf pd_2 rfl) rfl (by show 2 * 0 + _ ≤ _; exact Nat.le_of_eq rfl) (hb hby at_28) (fun _ _ => ⟨rfl, e49, (by decide : 1 + 0 ≤ _), (by decide : 3 + 0 ≤ _)⟩)
    dsimp only [Pt.U, Pt.locs, Pt.cells, Pt.slots] at X54 l54 y54 z54 st54 hQ54
    subst l54 y54 z54
    obtain ⟨rfl, M54, Kc, Fa, Fb⟩ := hQ54
    have N54 := Fr.app N48 M54
    refine Goes.on (fun t k => st54.trans k) ?_
    have O_55 := O_50.keep Kc (allS g_b49 all0)
    have A49_56 := A49.keep Kc
    have K60 := K49.trans Kc (allS (Or.inr sz_b49) all0)
    show Goes p e below QQ (T54.setTop (mkF m 31 #[iv p1, iv p2, iv p3, iv p4, iv p1, rv aP, .unset, .unset, .unset, .unset] [(.ref b49)]))
    refine Goes.on (fun t k => XS.astore X54.here hx rfl (hb hby at_31) rfl rfl (l' := #[iv p1, iv p2, iv p3, iv p4, iv p1, rv aP, rv b49, .unset, .unset, .unset]) rfl k) ?_
    show Goes p e below QQ (T54.setTop (mkF m 33 #[iv p1, iv p2, iv p3, iv p4, iv p1, rv aP, rv b49, .unset, .unset, .unset] []))
    refine Goes.on (fun t k => XS.aload X54.here hx rfl (hb hby at_33) rfl rfl k) ?_
    show Goes p e below QQ (T54.setTop (mkF m 35 #[iv p1, iv p2, iv p3, iv p4, iv p1, rv aP, rv b49, .unset, .unset, .unset] [(.ref b49)]))
    obtain ⟨cq61, kq61, q61a, q61b, q61c⟩ := isOf hZ rfl A49_56
    obtain ⟨_, _, ⟨T61, L61, k61, n61⟩, -, X61, ⟨Lc61, hQ61, l61, y61, z61⟩, st61⟩ := X54.virtualBack hx (y := (⟨"com/example/clew/clew/algebra/Atom$ProperInstance", "variables", "()[I"⟩ : MethodName)) (z := (⟨"com/example/clew/clew/algebra/Atom$ProperInstance", "variables", "()[I"⟩ : MethodName)) hown (mvT hZ (hw _ (List.mem_of_getElem? (i := 28) rfl))) (mvT hZ (hw _ (List.mem_of_getElem? (i := 29) rfl))) (notFace_of_selects (args := #[]) (mvT hZ (hw _ (List.mem_of_getElem? (i := 31) rfl)))) (mvT hZ (hw _ (List.mem_of_getElem? (i := 31) rfl))) (mvT hZ (hw _ (List.mem_of_getElem? (i := 30) rfl))) (by decide) (backOf (W := 0) (rm3 l Z a0 hw [] b49 p1 p1 T54.heap n0 (Nat.le_trans Z0 K60.1) Fa Fb) hZ (hw _ (List.mem_of_getElem? (i := 32) rfl)) (hw _ (List.mem_of_getElem? (i := 10) rfl)) (by decide) (by decide)) q61a q61c (g := (mkF m 35 #[iv p1, iv p2, iv p3, iv p4, iv p1, rv aP, rv b49, .unset, .unset, .unset] [(.ref b49)])) rfl (by rw [hml]; rfl) (Steps.refl _) (argsL := []) (rest := []) (lenOf pd_3 rfl) rfl (by show 2 * 0 + _ ≤ _; exact Nat.le_of_eq rfl) (hb hby at_35) (fun _ _ => ⟨rfl, rfl, (by decide : 1 + 1 ≤ _), (by decide : 3 + 2 ≤ _)⟩)
    dsimp only [Pt.U, Pt.locs, Pt.cells, Pt.slots] at X61 l61 y61 z61 st61 hQ61
    subst l61 y61 z61
    obtain ⟨b61, kb61, rfl, M61, Kc61, sz61, V_61⟩ := hQ61
    have sz_b61 : h0.size ≤ b61 := Nat.le_trans K60.1 sz61
    have g_b61 : n0 ≤ b61 := Nat.le_trans Z0 sz_b61
    have ne_b49_b61 : b49 ≠ b61 := Nat.ne_of_lt (Nat.lt_of_lt_of_le A49_56.lt sz61)
    have N61 := Fr.app N54 M61
    refine Goes.on (fun t k => st61.trans k) ?_
    have O_62 := O_55.keep Kc61 all0
    have A49_63 := A49_56.keep Kc61
    have Fa_64 := Fa.keep Kc61 nin0
    have Fb_65 := Fb.keep Kc61 nin0
    have K66 := K60.trans Kc61 all0
    show Goes p e below QQ (T61.setTop (mkF m 38 #[iv p1, iv p2, iv p3, iv p4, iv p1, rv aP, rv b49, .unset, .unset, .unset] [(.ref b61)]))
    refine Goes.on (fun t k => XS.astore X61.here hx rfl (hb hby at_38) rfl rfl (l' := #[iv p1, iv p2, iv p3, iv p4, iv p1, rv aP, rv b49, rv b61, .unset, .unset]) rfl k) ?_
    show Goes p e below QQ (T61.setTop (mkF m 40 #[iv p1, iv p2, iv p3, iv p4, iv p1, rv aP, rv b49, rv b61, .unset, .unset] []))
    refine Goes.on (fun t k => XS.aload X61.here hx rfl (hb hby at_40) rfl rfl k) ?_
    show Goes p e below QQ (T61.setTop (mkF m 42 #[iv p1, iv p2, iv p3, iv p4, iv p1, rv aP, rv b49, rv b61, .unset, .unset] [(.ref b61)]))
    refine Goes.on (fun t k => XS.ifnullNo X61.here hx rfl (hb hby at_42) rfl k) ?_
    show Goes p e below QQ (T61.setTop (mkF m 45 #[iv p1, iv p2, iv p3, iv p4, iv p1, rv aP, rv b49, rv b61, .unset, .unset] []))
    refine Goes.on (fun t k => XS.aload X61.here hx rfl (hb hby at_45) rfl rfl k) ?_
    show Goes p e below QQ (T61.setTop (mkF m 47 #[iv p1, iv p2, iv p3, iv p4, iv p1, rv aP, rv b49, rv b61, .unset, .unset] [(.ref b61)]))
    obtain ⟨cl67, Ar67, q67, S67, N67z, H67, G67⟩ := id V_61
    refine Goes.on (fun t k => X61.arraylength hx Ar67.1 (State.isArrayOf_alike hZ.alike Ar67.2.1) (g := (mkF m 47 #[iv p1, iv p2, iv p3, iv p4, iv p1, rv aP, rv b49, rv b61, .unset, .unset] [(.ref b61)])) rfl rfl (hb hby at_47) t k) ?_
    rw [len_of S67 N67z]
    show Goes p e below QQ (T61.setTop (mkF m 48 #[iv p1, iv p2, iv p3, iv p4, iv p1, rv aP, rv b49, rv b61, .unset, .unset] [(.int 2)]))
    refine Goes.on (fun t k => XS.iconst X61.here hx rfl (hb hby at_48) k) ?_
    show Goes p e below QQ (T61.setTop (mkF m 49 #[iv p1, iv p2, iv p3, iv p4, iv p1, rv aP, rv b49, rv b61, .unset, .unset] [(.int 2), (.int 2)]))
    refine Goes.on (fun t k => XS.icmpYes X61.here hx rfl (pc0 := 49) (pc' := 54) rfl (hb hby at_49) rfl (teq (by decide)).1 (by decide) (by decide) k) ?_
    show Goes p e below QQ (T61.setTop (mkF m 54 #[iv p1, iv p2, iv p3, iv p4, iv p1, rv aP, rv b49, rv b61, .unset, .unset] []))
    refine Goes.on (fun t k => XS.aload X61.here hx rfl (hb hby at_54) rfl rfl k) ?_
    show Goes p e below QQ (T61.setTop (mkF m 56 #[iv p1, iv p2, iv p3, iv p4, iv p1, rv aP, rv b49, rv b61, .unset, .unset] [(.ref b61)]))
    refine Goes.on (fun t k => XS.iconst X61.here hx rfl (hb hby at_56) k) ?_
    show Goes p e below QQ (T61.setTop (mkF m 57 #[iv p1, iv p2, iv p3, iv p4, iv p1, rv aP, rv b49, rv b61, .unset, .unset] [(.int 0), (.ref b61)]))
    obtain ⟨cl68, Ar68, q68, S68, N68z, H68, G68⟩ := id V_61
    have hin68 := inb_of (j := (0 : Int32)) S68 ⟨by decide, by decide⟩
    have hat68 := Has.at (v := (.int p1)) H68 hin68 rfl
    refine Goes.on (fun t k => X61.iaload hx (j := (0 : Int32)) (v := (.int p1)) Ar68.1 (State.isArrayOf_alike hZ.alike Ar68.2.1) Ar68.2.2 hin68 hat68 (g := (mkF m 57 #[iv p1, iv p2, iv p3, iv p4, iv p1, rv aP, rv b49, rv b61, .unset, .unset] [(.int 0), (.ref b61)])) rfl rfl (hb hby at_57) t k) ?_
    show Goes p e below QQ (T61.setTop (mkF m 58 #[iv p1, iv p2, iv p3, iv p4, iv p1, rv aP, rv b49, rv b61, .unset, .unset] [(.int p1)]))
    refine Goes.on (fun t k => XS.iloadN X61.here hx rfl (hb hby at_58) rfl k) ?_
    show Goes p e below QQ (T61.setTop (mkF m 59 #[iv p1, iv p2, iv p3, iv p4, iv p1, rv aP, rv b49, rv b61, .unset, .unset] [(.int p1), (.int p1)]))
    refine Goes.on (fun t k => XS.icmpNo X61.here hx rfl (hb hby at_59) rfl (teq (rfl : p1 = p1)).2 k) ?_
    show Goes p e below QQ (T61.setTop (mkF m 62 #[iv p1, iv p2, iv p3, iv p4, iv p1, rv aP, rv b49, rv b61, .unset, .unset] []))
    refine Goes.on (fun t k => XS.aload X61.here hx rfl (hb hby at_62) rfl rfl k) ?_
    show Goes p e below QQ (T61.setTop (mkF m 64 #[iv p1, iv p2, iv p3, iv p4, iv p1, rv aP, rv b49, rv b61, .unset, .unset] [(.ref b61)]))
    refine Goes.on (fun t k => XS.iconst X61.here hx rfl (hb hby at_64) k) ?_
    show Goes p e below QQ (T61.setTop (mkF m 65 #[iv p1, iv p2, iv p3, iv p4, iv p1, rv aP, rv b49, rv b61, .unset, .unset] [(.int 1), (.ref b61)]))
    obtain ⟨cl69, Ar69, q69, S69, N69z, H69, G69⟩ := id V_61
    have hin69 := inb_of (j := (1 : Int32)) S69 ⟨by decide, by decide⟩
    have hat69 := Has.at (v := (.int p1)) H69 hin69 rfl
    refine Goes.on (fun t k => X61.iaload hx (j := (1 : Int32)) (v := (.int p1)) Ar69.1 (State.isArrayOf_alike hZ.alike Ar69.2.1) Ar69.2.2 hin69 hat69 (g := (mkF m 65 #[iv p1, iv p2, iv p3, iv p4, iv p1, rv aP, rv b49, rv b61, .unset, .unset] [(.int 1), (.ref b61)])) rfl rfl (hb hby at_65) t k) ?_
    show Goes p e below QQ (T61.setTop (mkF m 66 #[iv p1, iv p2, iv p3, iv p4, iv p1, rv aP, rv b49, rv b61, .unset, .unset] [(.int p1)]))
    refine Goes.on (fun t k => XS.iload X61.here hx rfl (hb hby at_66) rfl k) ?_
    show Goes p e below QQ (T61.setTop (mkF m 68 #[iv p1, iv p2, iv p3, iv p4, iv p1, rv aP, rv b49, rv b61, .unset, .unset] [(.int p1), (.int p1)]))
    refine Goes.on (fun t k => XS.icmpNo X61.here hx rfl (hb hby at_68) rfl (teq (rfl : p1 = p1)).2 k) ?_
    show Goes p e below QQ (T61.setTop (mkF m 71 #[iv p1, iv p2, iv p3, iv p4, iv p1, rv aP, rv b49, rv b61, .unset, .unset] []))
    refine Goes.on (fun t k => XS.iconst X61.here hx rfl (hb hby at_71) k) ?_
    show Goes p e below QQ (T61.setTop (mkF m 72 #[iv p1, iv p2, iv p3, iv p4, iv p1, rv aP, rv b49, rv b61, .unset, .unset] [(.int 1)]))
    refine Goes.on (fun t k => XS.goto X61.here hx rfl (pc0 := 72) (pc' := 76) rfl (hb hby at_72) (by decide) (by decide) k) ?_
    show Goes p e below QQ (T61.setTop (mkF m 76 #[iv p1, iv p2, iv p3, iv p4, iv p1, rv aP, rv b49, rv b61, .unset, .unset] [(.int 1)]))
    refine Goes.on (fun t k => XS.istore X61.here hx rfl (hb hby at_76) rfl (l' := #[iv p1, iv p2, iv p3, iv p4, iv p1, rv aP, rv b49, rv b61, iv 1, .unset]) rfl k) ?_
    show Goes p e below QQ (T61.setTop (mkF m 78 #[iv p1, iv p2, iv p3, iv p4, iv p1, rv aP, rv b49, rv b61, iv 1, .unset] []))
    refine Goes.on (fun t k => XS.aload X61.here hx rfl (hb hby at_78) rfl rfl k) ?_
    show Goes p e below QQ (T61.setTop (mkF m 80 #[iv p1, iv p2, iv p3, iv p4, iv p1, rv aP, rv b49, rv b61, iv 1, .unset] [(.ref b61)]))
    refine Goes.on (fun t k => XS.iconst X61.here hx rfl (hb hby at_80) k) ?_
    show Goes p e below QQ (T61.setTop (mkF m 81 #[iv p1, iv p2, iv p3, iv p4, iv p1, rv aP, rv b49, rv b61, iv 1, .unset] [(.int 0), (.ref b61)]))
    refine Goes.on (fun t k => XS.iloadN X61.here hx rfl (hb hby at_81) rfl k) ?_
    show Goes p e below QQ (T61.setTop (mkF m 82 #[iv p1, iv p2, iv p3, iv p4, iv p1, rv aP, rv b49, rv b61, iv 1, .unset] [(.int p1), (.int 0), (.ref b61)]))
    refine Goes.on (fun t k => XS.iconst X61.here hx rfl (hb hby at_82) k) ?_
    show Goes p e below QQ (T61.setTop (mkF m 83 #[iv p1, iv p2, iv p3, iv p4, iv p1, rv aP, rv b49, rv b61, iv 1, .unset] [(.int (-1)), (.int p1), (.int 0), (.ref b61)]))
    refine Goes.on (fun t k => XS.ixor X61.here hx rfl (hb hby at_83) rfl k) ?_
    show Goes p e below QQ (T61.setTop (mkF m 84 #[iv p1, iv p2, iv p3, iv p4, iv p1, rv aP, rv b49, rv b61, iv 1, .unset] [(.int (p1 ^^^ (-1 : Int32))), (.int 0), (.ref b61)]))
    obtain ⟨cl70, Ar70, q70, S70, N70z, H70, G70⟩ := id V_61
    have hin70 := inb_of (j := (0 : Int32)) S70 ⟨by decide, by decide⟩
    obtain ⟨T71, h71, X71, e71, W71, st71⟩ := stI X61 hx hZ rfl Ar70 (j := (0 : Int32)) hin70 (g := (mkF m 84 #[iv p1, iv p2, iv p3, iv p4, iv p1, rv aP, rv b49, rv b61, iv 1, .unset] [(.int (p1 ^^^ (-1 : Int32))), (.int 0), (.ref b61)])) rfl rfl (hb hby at_84)
    have O_72 := O_62.wr W71 g_b61
    have A49_73 := A49_63.wr W71
    have Fa_74 := Fa_64.other W71 (Or.inl ne_b49_b61)
    have Fb_75 := Fb_65.other W71 (Or.inl ne_b49_b61)
    have K71 := K66.wr W71 (Or.inr sz_b61)
    have N71 := Fr.snoc X71 N61 g_b61
    have V_76 := (Arv.set Ar70 q70 S70 N70z H70 G70 rfl W71 0 rfl (Nat.le_of_ble_eq_true rfl) : Arv Z h71 b61 kb61 .int (2 : Int32) [(.int (p1 ^^^ (-1 : Int32))), (.int p1)] (.int 0))
    refine Goes.on (fun t k => st71 t k) ?_
    show Goes p e below QQ (T71.setTop (mkF m 85 #[iv p1, iv p2, iv p3, iv p4, iv p1, rv aP, rv b49, rv b61, iv 1, .unset] []))
    refine Goes.on (fun t k => XS.aload X71.here hx rfl (hb hby at_85) rfl rfl k) ?_
    show Goes p e below QQ (T71.setTop (mkF m 87 #[iv p1, iv p2, iv p3, iv p4, iv p1, rv aP, rv b49, rv b61, iv 1, .unset] [(.ref b61)]))
    refine Goes.on (fun t k => XS.iconst X71.here hx rfl (hb hby at_87) k) ?_
    show Goes p e below QQ (T71.setTop (mkF m 88 #[iv p1, iv p2, iv p3, iv p4, iv p1, rv aP, rv b49, rv b61, iv 1, .unset] [(.int 1), (.ref b61)]))
    refine Goes.on (fun t k => XS.iload X71.here hx rfl (hb hby at_88) rfl k) ?_
    show Goes p e below QQ (T71.setTop (mkF m 90 #[iv p1, iv p2, iv p3, iv p4, iv p1, rv aP, rv b49, rv b61, iv 1, .unset] [(.int p1), (.int 1), (.ref b61)]))
    refine Goes.on (fun t k => XS.iconst X71.here hx rfl (hb hby at_90) k) ?_
    show Goes p e below QQ (T71.setTop (mkF m 91 #[iv p1, iv p2, iv p3, iv p4, iv p1, rv aP, rv b49, rv b61, iv 1, .unset] [(.int (-1)), (.int p1), (.int 1), (.ref b61)]))
    refine Goes.on (fun t k => XS.ixor X71.here hx rfl (hb hby at_91) rfl k) ?_
    show Goes p e below QQ (T71.setTop (mkF m 92 #[iv p1, iv p2, iv p3, iv p4, iv p1, rv aP, rv b49, rv b61, iv 1, .unset] [(.int (p1 ^^^ (-1 : Int32))), (.int 1), (.ref b61)]))
    obtain ⟨cl77, Ar77, q77, S77, N77z, H77, G77⟩ := id V_76
    have hin77 := inb_of (j := (1 : Int32)) S77 ⟨by decide, by decide⟩
    obtain ⟨T78, h78, X78, e78, W78, st78⟩ := stI X71 hx hZ e71 Ar77 (j := (1 : Int32)) hin77 (g := (mkF m 92 #[iv p1, iv p2, iv p3, iv p4, iv p1, rv aP, rv b49, rv b61, iv 1, .unset] [(.int (p1 ^^^ (-1 : Int32))), (.int 1), (.ref b61)])) rfl rfl (hb hby at_92)
    have O_79 := O_72.wr W78 g_b61
    have A49_80 := A49_73.wr W78
    have Fa_81 := Fa_74.other W78 (Or.inl ne_b49_b61)
    have Fb_82 := Fb_75.other W78 (Or.inl ne_b49_b61)
    have K78 := K71.wr W78 (Or.inr sz_b61)
    have N78 := Fr.snoc X78 N71 g_b61
    have V_83 := (Arv.set Ar77 q77 S77 N77z H77 G77 rfl W78 1 rfl (Nat.le_of_ble_eq_true rfl) : Arv Z h78 b61 kb61 .int (2 : Int32) [(.int (p1 ^^^ (-1 : Int32))), (.int (p1 ^^^ (-1 : Int32)))] (.int 0))
    refine Goes.on (fun t k => st78 t k) ?_
    show Goes p e below QQ (T78.setTop (mkF m 93 #[iv p1, iv p2, iv p3, iv p4, iv p1, rv aP, rv b49, rv b61, iv 1, .unset] []))
    refine Goes.on (fun t k => XS.aload X78.here hx rfl (hb hby at_93) rfl rfl k) ?_
    show Goes p e below QQ (T78.setTop (mkF m 95 #[iv p1, iv p2, iv p3, iv p4, iv p1, rv aP, rv b49, rv b61, iv 1, .unset] [(.ref b49)]))
    obtain ⟨cq84, kq84, q84a, q84b, q84c⟩ := isOf hZ e78 A49_80
    obtain ⟨_, _, ⟨T84, L84, k84, n84⟩, -, X84, ⟨Lc84, hQ84, l84, y84, z84⟩, st84⟩ := X78.virtualBack hx (y := (⟨"com/example/clew/clew/algebra/Atom$ProperInstance", "variables", "()[I"⟩ : MethodName)) (z := (⟨"com/example/clew/clew/algebra/Atom$ProperInstance", "variables", "()[I"⟩ : MethodName)) hown (mvT hZ (hw _ (List.mem_of_getElem? (i := 28) rfl))) (mvT hZ (hw _ (List.mem_of_getElem? (i := 29) rfl))) (notFace_of_selects (args := #[]) (mvT hZ (hw _ (List.mem_of_getElem? (i := 31) rfl)))) (mvT hZ (hw _ (List.mem_of_getElem? (i := 31) rfl))) (mvT hZ (hw _ (List.mem_of_getElem? (i := 30) rfl))) (by decide) (backOf (W := 0) (rm3 l Z a0 hw [] b49 p1 p1 h78 n0 (Nat.le_trans Z0 K78.1) Fa_81 Fb_82) hZ (hw _ (List.mem_of_getElem? (i := 32) rfl)) (hw _ (List.mem_of_getElem? (i := 10) rfl)) (by decide) (by decide)) q84a q84c (g := (mkF m 95 #[iv p1, iv p2, iv p3, iv p4, iv p1, rv aP, rv b49, rv b61, iv 1, .unset] [(.ref b49)])) rfl (by rw [hml]; rfl) (Steps.refl _) (argsL := []) (rest := []) (lenOf pd_3 rfl) rfl (by show 2 * 0 + _ ≤ _; exact Nat.le_of_eq rfl) (hb hby at_95) (fun _ _ => ⟨rfl, e78, (by decide : 2 + 1 ≤ _), (by decide : 5 + 2 ≤ _)⟩)
    dsimp only [Pt.U, Pt.locs, Pt.cells, Pt.slots] at X84 l84 y84 z84 st84 hQ84
    subst l84 y84 z84
    obtain ⟨b84, kb84, rfl, M84, Kc84, sz84, V_84⟩ := hQ84
    have sz_b84 : h0.size ≤ b84 := Nat.le_trans K78.1 sz84
    have g_b84 : n0 ≤ b84 := Nat.le_trans Z0 sz_b84
    have ne_b49_b84 : b49 ≠ b84 := Nat.ne_of_lt (Nat.lt_of_lt_of_le A49_80.lt sz84)
    have ne_b61_b84 : b61 ≠ b84 := Nat.ne_of_lt (Nat.lt_of_lt_of_le V_83.lt sz84)
    have N84 := Fr.app N78 M84
    refine Goes.on (fun t k => st84.trans k) ?_
    have O_85 := O_79.keep Kc84 all0
    have A49_86 := A49_80.keep Kc84
    have Fa_87 := Fa_81.keep Kc84 nin0
    have Fb_88 := Fb_82.keep Kc84 nin0
    have V_89 := V_83.keep Kc84 nin0
    have K90 := K78.trans Kc84 all0
    show Goes p e below QQ (T84.setTop (mkF m 98 #[iv p1, iv p2, iv p3, iv p4, iv p1, rv aP, rv b49, rv b61, iv 1, .unset] [(.ref b84)]))
    refine Goes.on (fun t k => XS.astore X84.here hx rfl (hb hby at_98) rfl rfl (l' := #[iv p1, iv p2, iv p3, iv p4, iv p1, rv aP, rv b49, rv b61, iv 1, rv b84]) rfl k) ?_
    show Goes p e below QQ (T84.setTop (mkF m 100 #[iv p1, iv p2, iv p3, iv p4, iv p1, rv aP, rv b49, rv b61, iv 1, rv b84] []))
    refine Goes.on (fun t k => XS.aload X84.here hx rfl (hb hby at_100) rfl rfl k) ?_
    show Goes p e below QQ (T84.setTop (mkF m 102 #[iv p1, iv p2, iv p3, iv p4, iv p1, rv aP, rv b49, rv b61, iv 1, rv b84] [(.ref b84)]))
    refine Goes.on (fun t k => XS.ifnullNo X84.here hx rfl (hb hby at_102) rfl k) ?_
    show Goes p e below QQ (T84.setTop (mkF m 105 #[iv p1, iv p2, iv p3, iv p4, iv p1, rv aP, rv b49, rv b61, iv 1, rv b84] []))
    refine Goes.on (fun t k => XS.aload X84.here hx rfl (hb hby at_105) rfl rfl k) ?_
    show Goes p e below QQ (T84.setTop (mkF m 107 #[iv p1, iv p2, iv p3, iv p4, iv p1, rv aP, rv b49, rv b61, iv 1, rv b84] [(.ref b84)]))
    obtain ⟨cl91, Ar91, q91, S91, N91z, H91, G91⟩ := id V_84
    refine Goes.on (fun t k => X84.arraylength hx Ar91.1 (State.isArrayOf_alike hZ.alike Ar91.2.1) (g := (mkF m 107 #[iv p1, iv p2, iv p3, iv p4, iv p1, rv aP, rv b49, rv b61, iv 1, rv b84] [(.ref b84)])) rfl rfl (hb hby at_107) t k) ?_
    rw [len_of S91 N91z]
    show Goes p e below QQ (T84.setTop (mkF m 108 #[iv p1, iv p2, iv p3, iv p4, iv p1, rv aP, rv b49, rv b61, iv 1, rv b84] [(.int 2)]))
    refine Goes.on (fun t k => XS.iconst X84.here hx rfl (hb hby at_108) k) ?_
    show Goes p e below QQ (T84.setTop (mkF m 109 #[iv p1, iv p2, iv p3, iv p4, iv p1, rv aP, rv b49, rv b61, iv 1, rv b84] [(.int 2), (.int 2)]))
    refine Goes.on (fun t k => XS.icmpYes X84.here hx rfl (pc0 := 109) (pc' := 114) rfl (hb hby at_109) rfl (teq (by decide)).1 (by decide) (by decide) k) ?_
    show Goes p e below QQ (T84.setTop (mkF m 114 #[iv p1, iv p2, iv p3, iv p4, iv p1, rv aP, rv b49, rv b61, iv 1, rv b84] []))
    refine Goes.on (fun t k => XS.iload X84.here hx rfl (hb hby at_114) rfl k) ?_
    show Goes p e below QQ (T84.setTop (mkF m 116 #[iv p1, iv p2, iv p3, iv p4, iv p1, rv aP, rv b49, rv b61, iv 1, rv b84] [(.int 1)]))
    refine Goes.on (fun t k => XS.ifNo X84.here hx rfl (hb hby at_116) rfl ((if0 _ _).trans (feq (by decide)).1) k) ?_
    show Goes p e below QQ (T84.setTop (mkF m 119 #[iv p1, iv p2, iv p3, iv p4, iv p1, rv aP, rv b49, rv b61, iv 1, rv b84] []))
    refine Goes.on (fun t k => XS.aload X84.here hx rfl (hb hby at_119) rfl rfl k) ?_
    show Goes p e below QQ (T84.setTop (mkF m 121 #[iv p1, iv p2, iv p3, iv p4, iv p1, rv aP, rv b49, rv b61, iv 1, rv b84] [(.ref b84)]))
    refine Goes.on (fun t k => XS.iconst X84.here hx rfl (hb hby at_121) k) ?_
    show Goes p e below QQ (T84.setTop (mkF m 122 #[iv p1, iv p2, iv p3, iv p4, iv p1, rv aP, rv b49, rv b61, iv 1, rv b84] [(.int 0), (.ref b84)]))
    obtain ⟨cl92, Ar92, q92, S92, N92z, H92, G92⟩ := id V_84
    have hin92 := inb_of (j := (0 : Int32)) S92 ⟨by decide, by decide⟩
    have hat92 := Has.at (v := (.int p1)) H92 hin92 rfl
    refine Goes.on (fun t k => X84.iaload hx (j := (0 : Int32)) (v := (.int p1)) Ar92.1 (State.isArrayOf_alike hZ.alike Ar92.2.1) Ar92.2.2 hin92 hat92 (g := (mkF m 122 #[iv p1, iv p2, iv p3, iv p4, iv p1, rv aP, rv b49, rv b61, iv 1, rv b84] [(.int 0), (.ref b84)])) rfl rfl (hb hby at_122) t k) ?_
    show Goes p e below QQ (T84.setTop (mkF m 123 #[iv p1, iv p2, iv p3, iv p4, iv p1, rv aP, rv b49, rv b61, iv 1, rv b84] [(.int p1)]))
    refine Goes.on (fun t k => XS.iloadN X84.here hx rfl (hb hby at_123) rfl k) ?_
    show Goes p e below QQ (T84.setTop (mkF m 124 #[iv p1, iv p2, iv p3, iv p4, iv p1, rv aP, rv b49, rv b61, iv 1, rv b84] [(.int p1), (.int p1)]))
    refine Goes.on (fun t k => XS.icmpNo X84.here hx rfl (hb hby at_124) rfl (teq (rfl : p1 = p1)).2 k) ?_
    show Goes p e below QQ (T84.setTop (mkF m 127 #[iv p1, iv p2, iv p3, iv p4, iv p1, rv aP, rv b49, rv b61, iv 1, rv b84] []))
    refine Goes.on (fun t k => XS.aload X84.here hx rfl (hb hby at_127) rfl rfl k) ?_
    show Goes p e below QQ (T84.setTop (mkF m 129 #[iv p1, iv p2, iv p3, iv p4, iv p1, rv aP, rv b49, rv b61, iv 1, rv b84] [(.ref b84)]))
    refine Goes.on (fun t k => XS.iconst X84.here hx rfl (hb hby at_129) k) ?_
    show Goes p e below QQ (T84.setTop (mkF m 130 #[iv p1, iv p2, iv p3, iv p4, iv p1, rv aP, rv b49, rv b61, iv 1, rv b84] [(.int 1), (.ref b84)]))
    obtain ⟨cl93, Ar93, q93, S93, N93z, H93, G93⟩ := id V_84
    have hin93 := inb_of (j := (1 : Int32)) S93 ⟨by decide, by decide⟩
    have hat93 := Has.at (v := (.int p1)) H93 hin93 rfl
    refine Goes.on (fun t k => X84.iaload hx (j := (1 : Int32)) (v := (.int p1)) Ar93.1 (State.isArrayOf_alike hZ.alike Ar93.2.1) Ar93.2.2 hin93 hat93 (g := (mkF m 130 #[iv p1, iv p2, iv p3, iv p4, iv p1, rv aP, rv b49, rv b61, iv 1, rv b84] [(.int 1), (.ref b84)])) rfl rfl (hb hby at_130) t k) ?_
    show Goes p e below QQ (T84.setTop (mkF m 131 #[iv p1, iv p2, iv p3, iv p4, iv p1, rv aP, rv b49, rv b61, iv 1, rv b84] [(.int p1)]))
    refine Goes.on (fun t k => XS.iload X84.here hx rfl (hb hby at_131) rfl k) ?_
    show Goes p e below QQ (T84.setTop (mkF m 133 #[iv p1, iv p2, iv p3, iv p4, iv p1, rv aP, rv b49, rv b61, iv 1, rv b84] [(.int p1), (.int p1)]))
    refine Goes.on (fun t k => XS.icmpNo X84.here hx rfl (hb hby at_133) rfl (teq (rfl : p1 = p1)).2 k) ?_
    show Goes p e below QQ (T84.setTop (mkF m 136 #[iv p1, iv p2, iv p3, iv p4, iv p1, rv aP, rv b49, rv b61, iv 1, rv b84] []))
    refine Goes.on (fun t k => XS.iconst X84.here hx rfl (hb hby at_136) k) ?_
    show Goes p e below QQ (T84.setTop (mkF m 137 #[iv p1, iv p2, iv p3, iv p4, iv p1, rv aP, rv b49, rv b61, iv 1, rv b84] [(.int 1)]))
    refine Goes.on (fun t k => XS.goto X84.here hx rfl (pc0 := 137) (pc' := 141) rfl (hb hby at_137) (by decide) (by decide) k) ?_
    show Goes p e below QQ (T84.setTop (mkF m 141 #[iv p1, iv p2, iv p3, iv p4, iv p1, rv aP, rv b49, rv b61, iv 1, rv b84] [(.int 1)]))
    exact Goes.rN X84 hx (t := .boolean) hret (by simp) hlk (hb hby at_141) hQQ ⟨rfl, N84⟩ (by decide) (by decide)
set_option maxRecDepth 65536 in
set_option maxHeartbeats 40000000 in
theorem comes_1 {Post : Tables → Env → Array Value → State → Outcome → State → Prop} (hpost : ∀ tb e args s v u, (limb_1_1.after args s (.returned v) u = true ∧ limb_1_2.after args s (.returned v) u = true ∧ True) → FrameEnd s (.returned v) u (Jvm.fieldLocs frame_1_writes args s ++ Jvm.arrayLocs frame_1_arrays args s ++ Jvm.staticLocs frame_1_statics s) 16 128 → Post tb e args s (.returned v) u) :
    ArmFor flags0 classFile x code maxLocals ret World_1 tables_1 room_1 Calls_1 rest_1 Pre_1 Post := by
  intro l hfl _ _ p e ha hc hk s m args below hf hA hF happ hP
  obtain ⟨hcalls, hrest, hpre⟩ := hP
  obtain ⟨-, -, -, hnamed, -, -, -, hat⟩ := (Spec.applies_iff hf).mp happ
  obtain ⟨hg, hn⟩ := and_e (Cond.before_iff.mp (show (Jvm.Cond.and given_1 narrow_1).before args s = true from hpre))
  obtain ⟨hg0, hg1⟩ := and_e hg
  obtain ⟨ga1, hg2⟩ := and_e hg1
  obtain ⟨ga2, hg3⟩ := and_e hg2
  obtain ⟨ga3, hg4⟩ := and_e hg3
  obtain ⟨w0, w1, w2, w3, rfl⟩ : ∃ w0 w1 w2 w3 : Value, args = #[w0, w1, w2, w3] := by
    have hs : args.size = 4 := by simpa [Cond.value, given_1] using hg0
    obtain ⟨L⟩ := args
    match L, hs with
    | [w0, w1, w2, w3], _ => exact ⟨w0, w1, w2, w3, rfl⟩
  have hw := fun d (hd : d ∈ tables_1) => atoms_spec (ws := Jvm.Cond.code x code maxLocals ret :: tables_1) hat d (List.mem_cons_of_mem _ hd)
  have hfit : Fit s := fun {y c} hc i hi => by
    obtain ⟨ha, rfl⟩ := Array.getElem?_eq_some_iff.mp hc
    have q := List.all_eq_true.mp ((Array.all_eq_true_iff_forall_mem.mp hF) _ (Array.getElem_mem ha)) i (List.mem_range.mpr hi)
    simpa [Array.getElem?_eq_getElem hi] using q
  obtain ⟨i0, ei0⟩ := is_v ga1
  obtain rfl : w0 = (.int i0) := Option.some.inj ei0
  obtain ⟨i1, ei1⟩ := is_v ga2
  obtain rfl : w1 = (.int i1) := Option.some.inj ei1
  obtain ⟨i2, ei2⟩ := is_v ga3
  obtain rfl : w2 = (.int i2) := Option.some.inj ei2
  obtain ⟨i3, ei3⟩ := is_v hg4
  obtain rfl : w3 = (.int i3) := Option.some.inj ei3
  obtain ⟨nc0, nr0⟩ := and_e hn
  obtain ⟨nc1, nr1⟩ := and_e nr0
  obtain ⟨nc2, nr2⟩ := and_e nr1
  obtain ⟨nc3, nr3⟩ := and_e nr2
  have nc4 := nr3
  obtain ⟨x_METACLASSES, ev_METACLASSES⟩ := exa_v nc0
  have EX_METACLASSES := Exa.start ev_METACLASSES nc0
  have ST_METACLASSES : Sta s s.heap "com/example/clew/clew/rdfs/Scope" "METACLASSES" "Lcom/example/clew/clew/rdfs/Scope;" (.ref x_METACLASSES) := Sta.start ev_METACLASSES (Or.inr ⟨(hw _ (List.mem_of_getElem? (i := 6) rfl)), (hw _ (List.mem_of_getElem? (i := 7) rfl))⟩)
  obtain ⟨x_ANY, ev_ANY⟩ := exa_v nc1
  have EX_ANY := Exa.start ev_ANY nc1
  have ST_ANY : Sta s s.heap "com/example/clew/clew/rdfs/Scope" "ANY" "Lcom/example/clew/clew/rdfs/Scope;" (.ref x_ANY) := Sta.start ev_ANY (Or.inr ⟨(hw _ (List.mem_of_getElem? (i := 6) rfl)), (hw _ (List.mem_of_getElem? (i := 35) rfl))⟩)
  obtain ⟨x_LITERAL_TYPES, ev_LITERAL_TYPES⟩ := exa_v nc2
  have EX_LITERAL_TYPES := Exa.start ev_LITERAL_TYPES nc2
  have ST_LITERAL_TYPES : Sta s s.heap "com/example/clew/clew/rdfs/Scope" "LITERAL_TYPES" "Lcom/example/clew/clew/rdfs/Scope;" (.ref x_LITERAL_TYPES) := Sta.start ev_LITERAL_TYPES (Or.inr ⟨(hw _ (List.mem_of_getElem? (i := 6) rfl)), (hw _ (List.mem_of_getElem? (i := 37) rfl))⟩)
  obtain ⟨x_CLASSES, ev_CLASSES⟩ := exa_v nc3
  have EX_CLASSES := Exa.start ev_CLASSES nc3
  have ST_CLASSES : Sta s s.heap "com/example/clew/clew/rdfs/Scope" "CLASSES" "Lcom/example/clew/clew/rdfs/Scope;" (.ref x_CLASSES) := Sta.start ev_CLASSES (Or.inr ⟨(hw _ (List.mem_of_getElem? (i := 6) rfl)), (hw _ (List.mem_of_getElem? (i := 39) rfl))⟩)
  obtain ⟨x_TYPES, ev_TYPES⟩ := exa_v nc4
  have EX_TYPES := Exa.start ev_TYPES nc4
  have ST_TYPES : Sta s s.heap "com/example/clew/clew/rdfs/Scope" "TYPES" "Lcom/example/clew/clew/rdfs/Scope;" (.ref x_TYPES) := Sta.start ev_TYPES (Or.inr ⟨(hw _ (List.mem_of_getElem? (i := 6) rfl)), (hw _ (List.mem_of_getElem? (i := 41) rfl))⟩)
  obtain ⟨n, o, h1, h2, h3, _, L, rfl, ⟨rfl, N⟩, hq⟩ := rm0 l s _ hw tables_1 i0 i1 i2 i3 x_CLASSES x_TYPES x_METACLASSES x_LITERAL_TYPES x_ANY s.heap s.heap.size (Nat.le_refl _) ST_CLASSES ST_TYPES ST_METACLASSES ST_LITERAL_TYPES ST_ANY (Old.start s) p e ha hc hk s m _ below hf ((Spec.applies_iff_loose hf).mp happ).1 ⟨rfl, State.Warmed39.refl s, rfl⟩ trivial
  refine ⟨n, _, h1, h2, h3, hpost _ _ _ _ _ _ ⟨Cond.after_iff.mpr rfl, Cond.after_iff.mpr (eq_i res_at (Term.int_eval (1)) rfl), trivial⟩ ⟨hq.1, hq.2.1, (hq.2.2.sift fun y hy => Or.inr (N y hy)).mono (by decide) (by decide)⟩⟩
theorem main_1_1 : Claimed_1_1 := comes_1 fun _ _ _ _ _ _ h hF => ⟨h.1, hF⟩
theorem main_1_2 : Claimed_1_2 := comes_1 fun _ _ _ _ _ _ h hF => ⟨h.2.1, hF⟩
end Jvm.Pilot.@@N@@
namespace Jvm.Pilot.@@N@@
open Jvm Jvm.ClassFile Sem Op Lib Jvm.Free Jvm.Stand Jvm.Pilot.@@N@@.Jvm.D
/-! MADE BY PROGRAM (witnessworld.py) out of the Statement's table words and the real class files: 15 classes; the members and pool entries that the words name. The judged class is class 1, her method 2. -/
namespace start1
open Jvm.ClassFile
def u (s : String) : CpInfo := .utf8 (stringToUtf16 s)
/-- a pool by its gaps: so many unusable entries, then the entry; so many at the end -/
def gap : Nat → List CpInfo → List CpInfo
  | 0, r => r
  | n + 1, r => .unusable :: gap n r
def poolList (es : List (Nat × CpInfo)) (last : Nat) : List CpInfo := es.foldr (fun e r => gap e.1 (e.2 :: r)) (gap last [])
def pool (es : List (Nat × CpInfo)) (last : Nat) : Array CpInfo := ⟨poolList es last⟩
def fileOf (pool : Array CpInfo) (this : Nat) (attrs : Array Attribute := #[]) (ms : Array MethodInfo := #[]) (fl : Nat := 33) (sup : Nat := 0) (ifs : Array Nat := #[]) (fds : Array FieldInfo := #[]) : ClassFile where
  minorVersion := 0
  majorVersion := 65
  constantPool := pool
  accessFlags := fl
  thisClass := this
  superClass := sup
  interfaces := ifs
  fields := fds
  methods := ms
  attributes := attrs
def plain (name : String) (sup : Option ClassId) : Class where
  name := name
  kind := .ordinary
  loader := none
  accessFlags := 33
  super := sup
  interfaces := #[]
  cf := none
  fields := #[]
  methods := #[]
  instanceTypes := #[]
  staticTypes := #[]
  resolved := #[]
  callSites := []
  init := .initialized
  statics := none
  mirror := none

def pool0 : Array CpInfo := pool [(5, u "<init>"), (0, u "()V"), (1, .class_ 10), (1, u "java/lang/Object")] 113

def k0c0 : Code := { maxStack := 0, maxLocals := 1, code := object_method_1_code, exceptionTable := #[], attributes := #[] }
def k0m0 : Method := { name := "<init>", desc := "()V", sig := { parameters := [], returnType := none }, accessFlags := 1, code := some k0c0 }
/-- java/lang/Object -/
def k0 : Class := { plain "java/lang/Object" none with
  accessFlags := 33
  interfaces := #[]
  cf := some (fileOf pool0 8 #[] #[{ accessFlags := 1, nameIndex := 5, descriptorIndex := 6, attributes := #[] }] 33 0 #[] #[])
  fields := #[]
  methods := #[k0m0]
  instanceTypes := #[]
  staticTypes := #[]
  resolved := Array.replicate 124 none
  statics := none }

def pool1 : Array CpInfo := pool [(2, .class_ 4), (1, u "java/lang/Object"), (0, u "<init>"), (0, u "()V"), (0, .integer 2147483647), (0, .fieldref 9 10), (0, .class_ 11), (0, .nameAndType 12 13), (0, u "com/example/clew/clew/rdfs/Scope"), (0, u "CLASSES"), (0, u "Lcom/example/clew/clew/rdfs/Scope;"), (0, .fieldref 9 15), (0, .nameAndType 16 13), (0, u "TYPES"), (0, .fieldref 9 18), (0, .nameAndType 19 13), (0, u "METACLASSES"), (0, .fieldref 9 21), (0, .nameAndType 22 13), (0, u "LITERAL_TYPES"), (0, .fieldref 9 24), (0, .nameAndType 25 13), (0, u "ANY"), (0, .methodref 27 28), (0, .class_ 29), (0, .nameAndType 30 31), (0, u "com/example/clew/clew/algebra/ProperInstanceVariablesPinLaw"), (0, u "pick"), (0, u "(I)Lcom/example/clew/clew/rdfs/Scope;"), (0, .class_ 33), (0, u "com/example/clew/clew/algebra/Atom$ProperInstance"), (0, .methodref 32 35), (0, .nameAndType 5 36), (0, u "(Lcom/example/clew/clew/rdfs/Scope;II)V"), (0, .methodref 32 38), (0, .nameAndType 39 40), (0, u "variables"), (0, u "()[I"), (3, u "law"), (0, u "(IIII)Z")] 8

def k1m0 : Method := { name := "<init>", desc := "()V", sig := { parameters := [], returnType := none }, accessFlags := 2, code := none }
def k1c1 : Code := { maxStack := 2, maxLocals := 2, code := method_2_code, exceptionTable := #[], attributes := #[] }
def k1m1 : Method := { name := "pick", desc := "(I)Lcom/example/clew/clew/rdfs/Scope;", sig := { parameters := [.int], returnType := some (.object "com/example/clew/clew/rdfs/Scope") }, accessFlags := 10, code := some k1c1 }
def k1c2 : Code := { maxStack := 5, maxLocals := 10, code := code, exceptionTable := #[], attributes := #[] }
def k1m2 : Method := { name := "law", desc := "(IIII)Z", sig := { parameters := [.int, .int, .int, .int], returnType := some .boolean }, accessFlags := 9, code := some k1c2 }
/-- com/example/clew/clew/algebra/ProperInstanceVariablesPinLaw -/
def k1 : Class := { plain "com/example/clew/clew/algebra/ProperInstanceVariablesPinLaw" (some 0) with
  accessFlags := 49
  interfaces := #[]
  cf := some (fileOf pool1 27 #[] #[{ accessFlags := 2, nameIndex := 5, descriptorIndex := 6, attributes := #[] }, { accessFlags := 10, nameIndex := 30, descriptorIndex := 31, attributes := #[] }, { accessFlags := 9, nameIndex := 44, descriptorIndex := 45, attributes := #[] }] 49 2 #[] #[])
  fields := #[]
  methods := #[k1m0, k1m1, k1m2]
  instanceTypes := #[]
  staticTypes := #[]
  resolved := Array.replicate 54 none
  statics := none }

def pool2 : Array CpInfo := pool [(1, .class_ 2), (0, u "java/lang/constant/Constable"), (0, .class_ 4), (0, u "java/lang/Object")] 6

/-- java/lang/constant/Constable -/
def k2 : Class := { plain "java/lang/constant/Constable" (some 0) with
  accessFlags := 1537
  interfaces := #[]
  cf := some (fileOf pool2 1 #[] #[] 1537 3 #[] #[])
  fields := #[]
  methods := #[]
  instanceTypes := #[]
  staticTypes := #[]
  resolved := Array.replicate 11 none
  statics := none }

def pool3 : Array CpInfo := pool [(1, .class_ 2), (0, u "java/lang/Comparable"), (0, .class_ 4), (0, u "java/lang/Object")] 7

/-- java/lang/Comparable -/
def k3 : Class := { plain "java/lang/Comparable" (some 0) with
  accessFlags := 1537
  interfaces := #[]
  cf := some (fileOf pool3 1 #[] #[] 1537 3 #[] #[])
  fields := #[]
  methods := #[]
  instanceTypes := #[]
  staticTypes := #[]
  resolved := Array.replicate 12 none
  statics := none }

def pool4 : Array CpInfo := pool [(1, .class_ 2), (0, u "java/io/Serializable"), (0, .class_ 4), (0, u "java/lang/Object")] 2

/-- java/io/Serializable -/
def k4 : Class := { plain "java/io/Serializable" (some 0) with
  accessFlags := 1537
  interfaces := #[]
  cf := some (fileOf pool4 1 #[] #[] 1537 3 #[] #[])
  fields := #[]
  methods := #[]
  instanceTypes := #[]
  staticTypes := #[]
  resolved := Array.replicate 7 none
  statics := none }

def pool5 : Array CpInfo := pool [(2, .class_ 4), (1, u "java/lang/Enum"), (0, u "name"), (0, u "Ljava/lang/String;"), (2, u "ordinal"), (0, u "I"), (1, .class_ 14), (1, u "java/lang/Object"), (4, u "hash"), (86, .class_ 108), (1, u "java/lang/Enum$EnumDesc"), (2, .class_ 112), (0, u "java/lang/constant/Constable"), (0, .class_ 114), (0, u "java/lang/Comparable"), (0, .class_ 116), (0, u "java/io/Serializable")] 87

/-- java/lang/Enum -/
def k5 : Class := { plain "java/lang/Enum" (some 0) with
  accessFlags := 1057
  interfaces := #[2, 3, 4]
  cf := some (fileOf pool5 2 #[.nestMembers #[106]] #[] 1057 12 #[111, 113, 115] #[{ accessFlags := 18, nameIndex := 5, descriptorIndex := 6, attributes := #[] }, { accessFlags := 18, nameIndex := 9, descriptorIndex := 10, attributes := #[] }, { accessFlags := 2, nameIndex := 19, descriptorIndex := 10, attributes := #[] }])
  fields := #[{ name := "name", type := (.object "java/lang/String"), accessFlags := 18, slot := 0, constantValue := 0 }, { name := "ordinal", type := .int, accessFlags := 18, slot := 1, constantValue := 0 }, { name := "hash", type := .int, accessFlags := 2, slot := 2, constantValue := 0 }]
  methods := #[]
  instanceTypes := #[(.object "java/lang/String"), .int, .int]
  staticTypes := #[]
  resolved := Array.replicate 204 none
  statics := none }

def pool6 : Array CpInfo := pool [(1, .class_ 2), (0, u "com/example/clew/clew/rdfs/Scope"), (2, u "CLASSES"), (0, u "Lcom/example/clew/clew/rdfs/Scope;"), (2, u "TYPES"), (2, u "METACLASSES"), (2, u "LITERAL_TYPES"), (2, u "ANY"), (2, u "$VALUES"), (0, u "[Lcom/example/clew/clew/rdfs/Scope;"), (6, .class_ 31), (1, u "java/lang/Enum")] 27

/-- com/example/clew/clew/rdfs/Scope -/
def k6 : Class := { plain "com/example/clew/clew/rdfs/Scope" (some 5) with
  accessFlags := 16433
  interfaces := #[]
  cf := some (fileOf pool6 1 #[] #[] 16433 29 #[] #[{ accessFlags := 16409, nameIndex := 5, descriptorIndex := 6, attributes := #[] }, { accessFlags := 16409, nameIndex := 9, descriptorIndex := 6, attributes := #[] }, { accessFlags := 16409, nameIndex := 12, descriptorIndex := 6, attributes := #[] }, { accessFlags := 16409, nameIndex := 15, descriptorIndex := 6, attributes := #[] }, { accessFlags := 16409, nameIndex := 18, descriptorIndex := 6, attributes := #[] }, { accessFlags := 4122, nameIndex := 21, descriptorIndex := 22, attributes := #[] }])
  fields := #[{ name := "CLASSES", type := (.object "com/example/clew/clew/rdfs/Scope"), accessFlags := 16409, slot := 0, constantValue := 0 }, { name := "TYPES", type := (.object "com/example/clew/clew/rdfs/Scope"), accessFlags := 16409, slot := 1, constantValue := 0 }, { name := "METACLASSES", type := (.object "com/example/clew/clew/rdfs/Scope"), accessFlags := 16409, slot := 2, constantValue := 0 }, { name := "LITERAL_TYPES", type := (.object "com/example/clew/clew/rdfs/Scope"), accessFlags := 16409, slot := 3, constantValue := 0 }, { name := "ANY", type := (.object "com/example/clew/clew/rdfs/Scope"), accessFlags := 16409, slot := 4, constantValue := 0 }, { name := "$VALUES", type := (.array (.object "com/example/clew/clew/rdfs/Scope")), accessFlags := 4122, slot := 5, constantValue := 0 }]
  methods := #[]
  instanceTypes := #[(.object "java/lang/String"), .int, .int]
  staticTypes := #[(.object "com/example/clew/clew/rdfs/Scope"), (.object "com/example/clew/clew/rdfs/Scope"), (.object "com/example/clew/clew/rdfs/Scope"), (.object "com/example/clew/clew/rdfs/Scope"), (.object "com/example/clew/clew/rdfs/Scope"), (.array (.object "com/example/clew/clew/rdfs/Scope"))]
  resolved := Array.replicate 59 none
  statics := some 0 }

def pool7 : Array CpInfo := pool [(1, .methodref 2 3), (0, .class_ 4), (0, .nameAndType 5 6), (0, u "java/lang/Object"), (0, u "<init>"), (0, u "()V"), (0, .class_ 8), (0, u "java/lang/Record")] 13

def k7c0 : Code := { maxStack := 1, maxLocals := 1, code := jdk_30_method_1_code, exceptionTable := #[], attributes := #[] }
def k7m0 : Method := { name := "<init>", desc := "()V", sig := { parameters := [], returnType := none }, accessFlags := 4, code := some k7c0 }
/-- java/lang/Record -/
def k7 : Class := { plain "java/lang/Record" (some 0) with
  accessFlags := 1057
  interfaces := #[]
  cf := some (fileOf pool7 7 #[] #[{ accessFlags := 4, nameIndex := 5, descriptorIndex := 6, attributes := #[] }] 1057 2 #[] #[])
  fields := #[]
  methods := #[k7m0]
  instanceTypes := #[]
  staticTypes := #[]
  resolved := Array.replicate 22 none
  statics := none }

def pool8 : Array CpInfo := pool [(1, .class_ 2), (0, u "com/example/clew/clew/algebra/Atom"), (0, .class_ 4), (0, u "java/lang/Object"), (5, .class_ 11), (0, u "com/example/clew/clew/algebra/Atom$Metaclasses"), (0, .class_ 13), (0, u "com/example/clew/clew/algebra/Atom$Relatives"), (0, .class_ 15), (0, u "com/example/clew/clew/algebra/Atom$ProperInstance"), (0, .class_ 17), (0, u "com/example/clew/clew/algebra/Atom$Stated"), (0, .class_ 19), (0, u "com/example/clew/clew/algebra/Atom$SideClass"), (0, .class_ 21), (0, u "com/example/clew/clew/algebra/Atom$InGroup"), (0, .class_ 23), (0, u "com/example/clew/clew/algebra/Atom$ClassesBelow"), (0, .class_ 25), (0, u "com/example/clew/clew/algebra/Atom$Constant"), (0, .class_ 27), (0, u "com/example/clew/clew/algebra/Atom$Statement"), (0, .class_ 29), (0, u "com/example/clew/clew/algebra/Atom$PropertyExtent"), (0, .class_ 31), (0, u "com/example/clew/clew/algebra/Atom$ClassExtent")] 13

/-- com/example/clew/clew/algebra/Atom -/
def k8 : Class := { plain "com/example/clew/clew/algebra/Atom" (some 0) with
  accessFlags := 1537
  interfaces := #[]
  cf := some (fileOf pool8 1 #[.nestMembers #[10, 12, 14, 16, 18, 20, 22, 24, 26, 28, 30]] #[] 1537 3 #[] #[])
  fields := #[]
  methods := #[]
  instanceTypes := #[]
  staticTypes := #[]
  resolved := Array.replicate 45 none
  statics := none }

def pool9 : Array CpInfo := pool [(1, .methodref 2 3), (0, .class_ 4), (0, .nameAndType 5 6), (0, u "java/lang/Record"), (0, u "<init>"), (0, u "()V"), (0, .fieldref 8 9), (0, .class_ 10), (0, .nameAndType 11 12), (0, u "com/example/clew/clew/algebra/Atom$ProperInstance"), (0, u "scope"), (0, u "Lcom/example/clew/clew/rdfs/Scope;"), (0, .fieldref 8 14), (0, .nameAndType 15 16), (0, u "cls"), (0, u "I"), (0, .fieldref 8 18), (0, .nameAndType 19 16), (0, u "resource"), (12, .class_ 33), (0, u "com/example/clew/clew/algebra/Atom"), (0, u "(Lcom/example/clew/clew/rdfs/Scope;II)V"), (3, u "variables"), (0, u "()[I")] 28

def k9c0 : Code := { maxStack := 2, maxLocals := 4, code := prog_8_method_1_code, exceptionTable := #[], attributes := #[] }
def k9m0 : Method := { name := "<init>", desc := "(Lcom/example/clew/clew/rdfs/Scope;II)V", sig := { parameters := [(.object "com/example/clew/clew/rdfs/Scope"), .int, .int], returnType := none }, accessFlags := 1, code := some k9c0 }
def k9c1 : Code := { maxStack := 4, maxLocals := 1, code := prog_8_method_2_code, exceptionTable := #[], attributes := #[] }
def k9m1 : Method := { name := "variables", desc := "()[I", sig := { parameters := [], returnType := some (.array .int) }, accessFlags := 1, code := some k9c1 }
/-- com/example/clew/clew/algebra/Atom$ProperInstance -/
def k9 : Class := { plain "com/example/clew/clew/algebra/Atom$ProperInstance" (some 7) with
  accessFlags := 49
  interfaces := #[8]
  cf := some (fileOf pool9 8 #[.nestHost 32] #[{ accessFlags := 1, nameIndex := 5, descriptorIndex := 34, attributes := #[] }, { accessFlags := 1, nameIndex := 38, descriptorIndex := 39, attributes := #[] }] 49 2 #[32] #[{ accessFlags := 18, nameIndex := 11, descriptorIndex := 12, attributes := #[] }, { accessFlags := 18, nameIndex := 15, descriptorIndex := 16, attributes := #[] }, { accessFlags := 18, nameIndex := 19, descriptorIndex := 16, attributes := #[] }])
  fields := #[{ name := "scope", type := (.object "com/example/clew/clew/rdfs/Scope"), accessFlags := 18, slot := 0, constantValue := 0 }, { name := "cls", type := .int, accessFlags := 18, slot := 1, constantValue := 0 }, { name := "resource", type := .int, accessFlags := 18, slot := 2, constantValue := 0 }]
  methods := #[k9m0, k9m1]
  instanceTypes := #[(.object "com/example/clew/clew/rdfs/Scope"), .int, .int]
  staticTypes := #[]
  resolved := Array.replicate 68 none
  statics := none }

def pool10 : Array CpInfo := pool [(1, u "java/lang/Cloneable"), (0, .class_ 1), (0, u "java/lang/Object"), (0, .class_ 3)] 3

/-- java/lang/Cloneable -/
def k10 : Class := { plain "java/lang/Cloneable" (some 0) with
  accessFlags := 1537
  interfaces := #[]
  cf := some (fileOf pool10 2 #[] #[] 1537 4 #[] #[])
  fields := #[]
  methods := #[]
  instanceTypes := #[]
  staticTypes := #[]
  resolved := Array.replicate 8 none
  statics := none }

/-- the primitive byte -/
def k11 : Class := { plain "byte" none with kind := .primitive 'B', accessFlags := 0x411 }
/-- [B -/
def k12 : Class := { plain "[B" (some 0) with kind := .array 11 .byte, interfaces := #[10, 4], accessFlags := 1041 }

/-- the primitive int -/
def k13 : Class := { plain "int" none with kind := .primitive 'I', accessFlags := 0x411 }
/-- [I -/
def k14 : Class := { plain "[I" (some 0) with kind := .array 13 .int, interfaces := #[10, 4], accessFlags := 1041 }

def heap : Heap := #[{ cls := 6, slots := #[.ref 1, .ref 2, .ref 3, .ref 4, .ref 5, .null], vm := .statics 6 },
  { cls := 6, slots := #[.null, .int 0, .int 0], vm := .none },
  { cls := 6, slots := #[.null, .int 1, .int 0], vm := .none },
  { cls := 6, slots := #[.null, .int 2, .int 0], vm := .none },
  { cls := 6, slots := #[.null, .int 3, .int 0], vm := .none },
  { cls := 6, slots := #[.null, .int 4, .int 0], vm := .none }]
def classes : Array Class := #[k0, k1, k2, k3, k4, k5, k6, k7, k8, k9, k10, k11, k12, k13, k14]
def interned : List (Array UInt16 × Addr) := []
def slotsUsed : Nat := 21
def theMethod : MethodId := ⟨1, 2⟩
def args0 : Array Value := #[.int 5, .int 6, .int 7, .int 8]
def aboutOver (below : List Frame) : State where
  vm := { classes := classes, interned := interned.toArray }
  heap := heap
  slotsUsed := slotsUsed
  threads := #[{ frames := .invoking theMethod args0 :: below }]
def below0 : List Frame := [.native { method := ⟨0, 0⟩, args := #[] }]
def about1 : State := aboutOver below0
def p0 : Program := .bare "" "" ""
def e0 : Env := launch0.env 0 0 0
theorem w_frames : about1.frames = Frame.invoking theMethod args0 :: below0 := rfl
set_option maxRecDepth 65536 in
theorem w_args : argsFit about1.vm theMethod args0 = true := by decide +kernel
set_option maxRecDepth 65536 in
theorem w_heap : heapFits about1 = true := by decide +kernel
set_option maxRecDepth 65536 in
theorem w_runnable : about1.curStatus? = some .runnable := by decide +kernel
set_option maxRecDepth 65536 in
theorem w_alone : about1.alone = true := by decide +kernel
set_option maxRecDepth 65536 in
theorem w_named : about1.methodNamed? x = some theMethod := by decide +kernel
set_option maxRecDepth 65536 in
theorem w_hears : about1.hears theMethod below0 = true := by decide +kernel
set_option maxRecDepth 65536 in
theorem w_ripe : about1.ripe theMethod args0 below0 = true := by decide +kernel
theorem w_running : about1.status = .running := rfl
set_option maxRecDepth 65536 in
theorem w_room : about1.hasRoom e0.platform room_1 = true :=
  launch0.hasRoom_least _ room_1 (by decide +kernel) (by decide +kernel) (by decide +kernel) (by decide +kernel) (by decide +kernel) (by decide +kernel)
theorem allAtoms_all (ts : List Jvm.Cond) (a : Array Jvm.Value) (st : Jvm.State) : (allAtoms ts).before a st = ts.all (fun c => c.before a st) := by
  induction ts with
  | nil => rfl
  | cons c t ih =>
    show (Jvm.Cond.and c (allAtoms t)).before a st = _
    rw [Jvm.Cond.before_and, ih, List.all_cons]
def words1 : List Jvm.Cond := Jvm.Cond.code x code maxLocals ret :: tables_1
/-- a 'code' word, met by the world's own term for the bytes: nothing is compared byte by byte -/
theorem code_word {y : MethodName} {bytes : ByteArray} {mx : Nat} {rt : Option FieldType} {a : Array Value} {s : State} {m : MethodId} {meth : Method} {c : Code} (h1 : s.methodNamed? y = some m) (h2 : s.vm.method? m = some meth) (h3 : meth.code = some c) (h4 : c.code = bytes)
    (h5 : (c.maxLocals == mx && c.exceptionTable.isEmpty && decide (c.maxStack ≤ mostOperands) && decide (meth.sig.returnType = rt) && !meth.locks && decide (parseMethodDescriptor y.desc = some meth.sig)) = true) : (Jvm.Cond.code y bytes mx rt).before a s = true := by
  simp only [Bool.and_eq_true, beq_iff_eq, Bool.not_eq_true', decide_eq_true_eq] at h5
  obtain ⟨⟨⟨⟨⟨g1, g2⟩, g3⟩, g4⟩, g5⟩, g6⟩ := h5
  simp [Cond.before, Cond.holds, Cond.value, h1, h2, h3, h4, g1, g2, g3, g4, g5, g6]
def isCode : Jvm.Cond → Bool
  | .code _ _ _ _ => true
  | _ => false
theorem all_split {L : List Jvm.Cond} {P : Jvm.Cond → Bool} (h1 : L.all (fun c => isCode c || P c) = true) (h2 : ∀ c ∈ L.filter isCode, P c = true) : L.all P = true := by
  refine List.all_eq_true.mpr fun c hc => ?_
  have h := List.all_eq_true.mp h1 c hc
  rcases Bool.eq_false_or_eq_true (isCode c) with hi | hi
  · exact h2 c (List.mem_filter.mpr ⟨hc, hi⟩)
  · simpa [hi] using h
set_option maxRecDepth 65536 in
theorem w_c0 : (Jvm.Cond.code x code maxLocals ret).before args0 about1 = true := code_word (m := ⟨1, 2⟩) (meth := k1m2) (c := k1c2) (by decide +kernel) rfl rfl rfl (by decide +kernel)
set_option maxRecDepth 65536 in
theorem w_c1 : (Jvm.Cond.code ({ cls := "com/example/clew/clew/algebra/ProperInstanceVariablesPinLaw", name := "pick", desc := "(I)Lcom/example/clew/clew/rdfs/Scope;" } : Jvm.MethodName) method_2_code (2 : Nat) (Option.some (Jvm.ClassFile.FieldType.object "com/example/clew/clew/rdfs/Scope"))).before args0 about1 = true := code_word (m := ⟨1, 1⟩) (meth := k1m1) (c := k1c1) (by decide +kernel) rfl rfl rfl (by decide +kernel)
set_option maxRecDepth 65536 in
theorem w_c2 : (Jvm.Cond.code ({ cls := "com/example/clew/clew/algebra/Atom$ProperInstance", name := "<init>", desc := "(Lcom/example/clew/clew/rdfs/Scope;II)V" } : Jvm.MethodName) prog_8_method_1_code (4 : Nat) (Option.none : Option Jvm.ClassFile.FieldType)).before args0 about1 = true := code_word (m := ⟨9, 0⟩) (meth := k9m0) (c := k9c0) (by decide +kernel) rfl rfl rfl (by decide +kernel)
set_option maxRecDepth 65536 in
theorem w_c3 : (Jvm.Cond.code ({ cls := "java/lang/Record", name := "<init>", desc := "()V" } : Jvm.MethodName) jdk_30_method_1_code (1 : Nat) (Option.none : Option Jvm.ClassFile.FieldType)).before args0 about1 = true := code_word (m := ⟨7, 0⟩) (meth := k7m0) (c := k7c0) (by decide +kernel) rfl rfl rfl (by decide +kernel)
set_option maxRecDepth 65536 in
theorem w_c4 : (Jvm.Cond.code ({ cls := "java/lang/Object", name := "<init>", desc := "()V" } : Jvm.MethodName) object_method_1_code (1 : Nat) (Option.none : Option Jvm.ClassFile.FieldType)).before args0 about1 = true := code_word (m := ⟨0, 0⟩) (meth := k0m0) (c := k0c0) (by decide +kernel) rfl rfl rfl (by decide +kernel)
set_option maxRecDepth 65536 in
theorem w_c5 : (Jvm.Cond.code ({ cls := "com/example/clew/clew/algebra/Atom$ProperInstance", name := "variables", desc := "()[I" } : Jvm.MethodName) prog_8_method_2_code (1 : Nat) (Option.some (Jvm.ClassFile.FieldType.array Jvm.ClassFile.FieldType.int))).before args0 about1 = true := code_word (m := ⟨9, 1⟩) (meth := k9m1) (c := k9c1) (by decide +kernel) rfl rfl rfl (by decide +kernel)
def codes1 : List Jvm.Cond := [Jvm.Cond.code x code maxLocals ret, Jvm.Cond.code ({ cls := "com/example/clew/clew/algebra/ProperInstanceVariablesPinLaw", name := "pick", desc := "(I)Lcom/example/clew/clew/rdfs/Scope;" } : Jvm.MethodName) method_2_code (2 : Nat) (Option.some (Jvm.ClassFile.FieldType.object "com/example/clew/clew/rdfs/Scope")), Jvm.Cond.code ({ cls := "com/example/clew/clew/algebra/Atom$ProperInstance", name := "<init>", desc := "(Lcom/example/clew/clew/rdfs/Scope;II)V" } : Jvm.MethodName) prog_8_method_1_code (4 : Nat) (Option.none : Option Jvm.ClassFile.FieldType), Jvm.Cond.code ({ cls := "java/lang/Record", name := "<init>", desc := "()V" } : Jvm.MethodName) jdk_30_method_1_code (1 : Nat) (Option.none : Option Jvm.ClassFile.FieldType), Jvm.Cond.code ({ cls := "java/lang/Object", name := "<init>", desc := "()V" } : Jvm.MethodName) object_method_1_code (1 : Nat) (Option.none : Option Jvm.ClassFile.FieldType), Jvm.Cond.code ({ cls := "com/example/clew/clew/algebra/Atom$ProperInstance", name := "variables", desc := "()[I" } : Jvm.MethodName) prog_8_method_2_code (1 : Nat) (Option.some (Jvm.ClassFile.FieldType.array Jvm.ClassFile.FieldType.int))]
set_option maxRecDepth 65536 in
theorem codes_eq : words1.filter isCode = codes1 := rfl
theorem w_codes : ∀ c ∈ words1.filter isCode, c.before args0 about1 = true := by
  rw [codes_eq]
  intro c hc
  simp only [codes1, List.mem_cons, List.not_mem_nil, or_false] at hc
  rcases hc with rfl | rfl | rfl | rfl | rfl | rfl
  · exact w_c0
  · exact w_c1
  · exact w_c2
  · exact w_c3
  · exact w_c4
  · exact w_c5
set_option maxRecDepth 65536 in
theorem w_t1 : (words1.take 24).all (fun c => isCode c || c.before args0 about1) = true := by decide +kernel
set_option maxRecDepth 65536 in
theorem w_t2 : (words1.drop 24).all (fun c => isCode c || c.before args0 about1) = true := by decide +kernel
theorem w_tables : (allAtoms (Jvm.Cond.code x code maxLocals ret :: tables_1)).before args0 about1 = true := by
  rw [allAtoms_all]
  show words1.all (fun c => c.before args0 about1) = true
  refine all_split ?_ w_codes
  rw [← List.take_append_drop 24 words1, List.all_append, w_t1, w_t2]
  rfl
set_option maxRecDepth 65536 in
theorem w_case : (Jvm.Cond.and given_1 narrow_1).before args0 about1 = true := by decide +kernel
theorem w_applies : (headSpec (Jvm.Cond.code x code maxLocals ret :: tables_1) room_1).applies x e0.platform about1 = true :=
  (Spec.applies_iff w_frames).mpr ⟨w_running, w_runnable, w_alone, w_named, w_hears, w_ripe, w_room, w_tables⟩
theorem atStart : AtStart classFile x code maxLocals ret World_1 tables_1 room_1 Calls_1 rest_1 Pre_1 launch0 p0 e0 about1 theMethod args0 below0 :=
  ⟨lists_1, trivial, launch0.admits_env _ _ _, launch0.least_env, fairChoices_fair.cas, fairChoices_fair.clock, w_frames, w_args, w_heap, w_applies, trivial, trivial, w_case⟩
end start1
theorem witness_1 : WitnessClaimed_1 := ⟨start1.p0, start1.e0, start1.about1, start1.theMethod, start1.args0, start1.below0, start1.atStart⟩
end Jvm.Pilot.@@N@@
