import JvmDerived
import JvmDerived.Pilot.@@N@@Statement
import JvmDerived.Pilot.@@N@@Code
set_option linter.unusedVariables false
set_option linter.unusedSimpArgs false
namespace Jvm.Pilot.@@N@@
open Jvm Jvm.ClassFile Sem Op Lib Jvm.Free Jvm.Stand Jvm.LawKit Jvm.RoadKit Bundle Jvm.Pilot.@@N@@.Jvm.D
/-! from the state S the run comes to an end that QQ allows -/
def Goes (p : Program) (e : Env) (below : List Frame) (QQ : Outcome → State → Prop) (S : State) : Prop :=
  ∃ s₂ o, Steps p.tables e below S s₂ ∧ s₂.status = .running ∧ Ended s₂ below o ∧ QQ o s₂
theorem Goes.on {p : Program} {e : Env} {below : List Frame} {QQ : Outcome → State → Prop} {S S' : State} (h : ∀ t, Steps p.tables e below S' t → Steps p.tables e below S t) (g : Goes p e below QQ S') : Goes p e below QQ S := by
  obtain ⟨s₂, o, h1, h2⟩ := g
  exact ⟨s₂, o, h _ h1, h2⟩
theorem Goes.cast {p : Program} {e : Env} {below : List Frame} {QQ : Outcome → State → Prop} {T : State} {g g' : JFrame} (q : g = g') (k : Goes p e below QQ (T.setTop g')) : Goes p e below QQ (T.setTop g) := q ▸ k
def EndsQ (s : State) (Q : Option Value → Heap → List Loc → Prop) (kc ks : Nat) (o : Outcome) (U' : State) : Prop := ∃ v L, o = .returned v ∧ Q v U'.heap L ∧ FrameEnd s o U' L kc ks
/-- a result alone -/
def QP (x : Value) (h0 : Heap) (n0 : Nat) (v : Option Value) (h : Heap) (L : List Loc) : Prop := v = some x ∧ Fr n0 L ∧ h = h0
theorem own_enter {l : Launch} {y : MethodName} {bytes : ByteArray} {maxL : Nat} {rt : Option FieldType} {ws : List Jvm.Cond} {rm : Room} {as' : Array Value} {Q : Option Value → Heap → List Loc → Prop} {Z : State} {h0 : Heap} {kc ks : Nat} (hp : plainFor y = true)
    (body : ∀ (p : Program) (e : Env) (s : State) (m : MethodId) (below : List Frame) (meth : Method) (c : Code) (s₁ : State) (QQ : Outcome → State → Prop), (∀ o U', EndsQ s Q kc ks o U' → QQ o U') → p.tables.exec = Jvm.exec → c.code = bytes → c.maxLocals = maxL → s.vm.findClass y.cls = some m.cls → meth.name = y.name → meth.sig.returnType = rt → meth.locks = false → Z.Warmed39 s.vm → Stand p l e rm s m as' below meth c s₁ [] 0 0 → s₁.heap = h0 →
      Goes p e below QQ (s₁.setTop (entryFrame m as' maxL))) :
    MetFree l y (head1 (Jvm.Cond.code y bytes maxL rt :: ws) rm) (fun a U => a = as' ∧ Z.Warmed39 U.vm ∧ U.heap = h0) (fun _ _ _ _ _ => True) (fun _ U o U' => ∃ v L, o = .returned v ∧ Q v U'.heap L ∧ FrameEnd U o U' L kc ks) := by
  refine MetFree.of_bodySF hp hisR ?_
  intro p e s m args below meth c s₁ Bd hml0 hP hK
  obtain ⟨rfl, hZ, hh⟩ := hP
  exact body p e s m below meth c s₁ _ (fun o U' h => h) Bd.exec Bd.bytes hml0 (findClass_of_methodNamed Bd.named) (name_of_methodNamed Bd.named Bd.method).1 Bd.returns (BodyLoose.notSynchronized Bd) hZ (Stand.of_body Bd) (by rw [← hh, Bd.state]; rfl)
section Ret
variable {p : Program} {l : Launch} {e : Env} {R : Room} {s : State} {m : MethodId} {args : Array Value} {below : List Frame} {meth : Method} {c : Code} {T : State} {locs : List Loc} {cells slots kc ks : Nat} {QQ : Outcome → State → Prop} {Q : Option Value → Heap → List Loc → Prop}
theorem Goes.fin (X : Stand p l e R s m args below meth c T locs cells slots) (hlk : meth.locks = false) {v : Option Value} (hv : meth.sig.returnType = none → v = none) {g : JFrame}
    (step : ∀ fs : List Frame, (∀ (f : JFrame) (acts : List Action), f.method = m → f.locked = none → f.entered = [] → (doReturn e (T.setTop f) acts v).1 = T.setFrames fs) → Steps p.tables e below (T.setTop g) (T.setFrames fs))
    (hQQ : ∀ o U', EndsQ s Q kc ks o U' → QQ o U') (hq : Q v T.heap locs) (hc : cells ≤ kc) (hs : slots ≤ ks) : Goes p e below QQ (T.setTop g) := by
  obtain ⟨fs, hr, hrun, hended, hW, hsame⟩ := X.leave (v := v) hv hlk
  exact ⟨_, _, step fs hr, hrun, hended, hQQ _ _ ⟨v, locs, rfl, hq, ⟨v, rfl⟩, hW, hsame.mono hc hs⟩⟩
theorem Goes.rI (X : Stand p l e R s m args below meth c T locs cells slots) (hx : p.tables.exec = Jvm.exec) (hret : meth.sig.returnType = some .int) (hlk : meth.locks = false) {pc : Nat} {Ls : Array Slot} {z : Int32} {rest : List Value} (hd : decode c.code pc = .ok (.ireturn, 1))
    (hQQ : ∀ o U', EndsQ s Q kc ks o U' → QQ o U') (hq : Q (some (.int z)) T.heap locs) (hc : cells ≤ kc) (hs : slots ≤ ks) : Goes p e below QQ (T.setTop (mkF m pc Ls (.int z :: rest))) :=
  Goes.fin X hlk (v := some (.int z)) (fun h => by rw [hret] at h; cases h) (fun fs hr => retOut X hx hret rfl (Or.inl ⟨rfl, Or.inl rfl, z, rfl⟩) hd hr) hQQ hq hc hs
theorem Goes.rN (X : Stand p l e R s m args below meth c T locs cells slots) (hx : p.tables.exec = Jvm.exec) {t : FieldType} (hret : meth.sig.returnType = some t) (ht : t = .boolean ∨ t = .byte ∨ t = .char ∨ t = .short) (hlk : meth.locks = false) {pc : Nat} {Ls : Array Slot} {z : Int32} {rest : List Value} (hd : decode c.code pc = .ok (.ireturn, 1))
    (hQQ : ∀ o U', EndsQ s Q kc ks o U' → QQ o U') (hq : Q (some (.int (nar t z))) T.heap locs) (hc : cells ≤ kc) (hs : slots ≤ ks) : Goes p e below QQ (T.setTop (mkF m pc Ls (.int z :: rest))) :=
  Goes.fin X hlk (v := some (.int (nar t z))) (fun h => by rw [hret] at h; cases h) (fun fs hr => retN X hx hret ht hd hr) hQQ hq hc hs
theorem Goes.rJ (X : Stand p l e R s m args below meth c T locs cells slots) (hx : p.tables.exec = Jvm.exec) (hret : meth.sig.returnType = some .long) (hlk : meth.locks = false) {pc : Nat} {Ls : Array Slot} {z : Int64} {rest : List Value} (hd : decode c.code pc = .ok (.lreturn, 1))
    (hQQ : ∀ o U', EndsQ s Q kc ks o U' → QQ o U') (hq : Q (some (.long z)) T.heap locs) (hc : cells ≤ kc) (hs : slots ≤ ks) : Goes p e below QQ (T.setTop (mkF m pc Ls (.long z :: rest))) :=
  Goes.fin X hlk (v := some (.long z)) (fun h => by rw [hret] at h; cases h) (fun fs hr => retOut X hx hret rfl (Or.inr (Or.inl ⟨rfl, rfl, z, rfl⟩)) hd hr) hQQ hq hc hs
theorem Goes.rA (X : Stand p l e R s m args below meth c T locs cells slots) (hx : p.tables.exec = Jvm.exec) {t : FieldType} (hret : meth.sig.returnType = some t) (ht : t.isReference = true) {w : Value} (hw : w.isRef = true) (hlk : meth.locks = false) {pc : Nat} {Ls : Array Slot} {rest : List Value} (hd : decode c.code pc = .ok (.areturn, 1))
    (hQQ : ∀ o U', EndsQ s Q kc ks o U' → QQ o U') (hq : Q (some w) T.heap locs) (hc : cells ≤ kc) (hs : slots ≤ ks) : Goes p e below QQ (T.setTop (mkF m pc Ls (w :: rest))) :=
  Goes.fin X hlk (v := some w) (fun h => by rw [hret] at h; cases h) (fun fs hr => retOut X hx hret (by cases w <;> first | (cases hw; done) | (cases t <;> first | (cases ht; done) | rfl)) (Or.inr (Or.inr (Or.inr (Or.inr ⟨rfl, ht, hw⟩)))) hd hr) hQQ hq hc hs
theorem Goes.rV (X : Stand p l e R s m args below meth c T locs cells slots) (hx : p.tables.exec = Jvm.exec) (hret : meth.sig.returnType = none) (hlk : meth.locks = false) {pc : Nat} {Ls : Array Slot} (hd : decode c.code pc = .ok (.return_, 1))
    (hQQ : ∀ o U', EndsQ s Q kc ks o U' → QQ o U') (hq : Q none T.heap locs) (hc : cells ≤ kc) (hs : slots ≤ ks) : Goes p e below QQ (T.setTop (mkF m pc Ls [])) :=
  Goes.fin X hlk (v := none) (fun _ => rfl) (fun fs hr => X.returnOut hx hret hd hr) hQQ hq hc hs
end Ret
/-- what the law leaves: it returned 1, and nothing old was written -/
def QL (n0 : Nat) (v : Option Value) (h : Heap) (L : List Loc) : Prop := v = some (.int 1) ∧ Fr n0 L
theorem own_fldI {args : Array Value} {s : State} {tt : Term} {C n d : String} {a : Addr} {k : Int32} (ht : tt.eval args s none [] s = some (.ref a)) (h : (Jvm.Cond.eq (Term.field tt C n d) (Term.int k)).value args s none s [] = some true) : Fld s s.heap a C n d (.int k) := by
  obtain ⟨x1, y1, e1, e2, k1, k2⟩ := cmp_v (Or.inl h)
  cases (Term.int_eval k).symm.trans e2
  obtain ⟨z1, rfl⟩ := k2
  have q := gotT (Cond.eq_ints e1 (Term.int_eval k)) h
  subst q
  exact Fld.start ((fld_at ht).symm.trans e1)
theorem d1_0 : decode method_3_code 0 = .ok (.iload_n 0, 1) := by decide +kernel
theorem d1_1 : decode method_3_code 1 = .ok (.ifCond .ne 7, 3) := by decide +kernel
theorem d1_4 : decode method_3_code 4 = .ok (.getstatic 24, 3) := by decide +kernel
theorem d1_7 : decode method_3_code 7 = .ok (.areturn, 1) := by decide +kernel
theorem d1_8 : decode method_3_code 8 = .ok (.iload_n 0, 1) := by decide +kernel
theorem d1_9 : decode method_3_code 9 = .ok (.iconst 1, 1) := by decide +kernel
theorem d1_10 : decode method_3_code 10 = .ok (.if_icmp .ne 7, 3) := by decide +kernel
theorem d1_13 : decode method_3_code 13 = .ok (.getstatic 28, 3) := by decide +kernel
theorem d1_16 : decode method_3_code 16 = .ok (.areturn, 1) := by decide +kernel
theorem d1_17 : decode method_3_code 17 = .ok (.iload_n 0, 1) := by decide +kernel
theorem d1_18 : decode method_3_code 18 = .ok (.iconst 2, 1) := by decide +kernel
theorem d1_19 : decode method_3_code 19 = .ok (.if_icmp .ne 7, 3) := by decide +kernel
theorem d1_22 : decode method_3_code 22 = .ok (.getstatic 31, 3) := by decide +kernel
theorem d1_25 : decode method_3_code 25 = .ok (.areturn, 1) := by decide +kernel
theorem d1_26 : decode method_3_code 26 = .ok (.iload_n 0, 1) := by decide +kernel
theorem d1_27 : decode method_3_code 27 = .ok (.iconst 3, 1) := by decide +kernel
theorem d1_28 : decode method_3_code 28 = .ok (.if_icmp .ne 7, 3) := by decide +kernel
theorem d1_31 : decode method_3_code 31 = .ok (.getstatic 34, 3) := by decide +kernel
theorem d1_34 : decode method_3_code 34 = .ok (.areturn, 1) := by decide +kernel
theorem d1_35 : decode method_3_code 35 = .ok (.iload_n 0, 1) := by decide +kernel
theorem d1_36 : decode method_3_code 36 = .ok (.iconst 4, 1) := by decide +kernel
theorem d1_37 : decode method_3_code 37 = .ok (.if_icmp .ne 7, 3) := by decide +kernel
theorem d1_40 : decode method_3_code 40 = .ok (.getstatic 37, 3) := by decide +kernel
theorem d1_43 : decode method_3_code 43 = .ok (.areturn, 1) := by decide +kernel
theorem d1_44 : decode method_3_code 44 = .ok (.iload_n 0, 1) := by decide +kernel
theorem d1_45 : decode method_3_code 45 = .ok (.iconst 5, 1) := by decide +kernel
theorem d1_46 : decode method_3_code 46 = .ok (.if_icmp .ne 7, 3) := by decide +kernel
theorem d1_49 : decode method_3_code 49 = .ok (.getstatic 40, 3) := by decide +kernel
theorem d1_52 : decode method_3_code 52 = .ok (.areturn, 1) := by decide +kernel
theorem d1_53 : decode method_3_code 53 = .ok (.getstatic 43, 3) := by decide +kernel
theorem d1_56 : decode method_3_code 56 = .ok (.areturn, 1) := by decide +kernel
theorem pn_1 : plainFor (⟨"com/example/lendgate/lendgate/policy/CriteriumIsPlacePinLaw", "pick", "(I)Lcom/example/lendgate/lendgate/policy/Criterium;"⟩ : MethodName) = true := plainFor_of_name (show plainName "com/example/lendgate/lendgate/policy/CriteriumIsPlacePinLaw" = true by first | (simp [plainName, overriddenIn]; done) | decide +kernel)
theorem ef_rm1 (m : MethodId) (x0 : Int32) : entryFrame m #[(.int x0)] 1 = mkF m 0 #[iv x0] [] := by first | (simp [entryFrame, mkF, argsToLocals, Value.category]; done) | rfl
def pickA (p1 : Int32) (x0 : Addr) (x1 : Addr) (x2 : Addr) (x3 : Addr) (x4 : Addr) (x5 : Addr) (x6 : Addr) : Addr := (if p1 = (0 : Int32) then x0 else (if p1 = (1 : Int32) then x1 else (if p1 = (2 : Int32) then x2 else (if p1 = (3 : Int32) then x3 else (if p1 = (4 : Int32) then x4 else (if p1 = (5 : Int32) then x5 else x6))))))
set_option maxRecDepth 65536 in
set_option maxHeartbeats 40000000 in
theorem rm1 (l : Launch) (Z : State) (a0 : Array Value) (hw : ∀ d ∈ tables_1, d.before a0 Z = true) (ws : List Jvm.Cond) (p1 : Int32) (x0 x1 x2 x3 x4 x5 x6 : Addr) (h0 : Heap) (n0 : Nat) (Z0 : n0 ≤ h0.size) (S_PATRON_GROUP : Sta Z Z.heap "com/example/lendgate/lendgate/policy/Criterium" "PATRON_GROUP" "Lcom/example/lendgate/lendgate/policy/Criterium;" (.ref x0)) (S_MATERIAL_TYPE : Sta Z Z.heap "com/example/lendgate/lendgate/policy/Criterium" "MATERIAL_TYPE" "Lcom/example/lendgate/lendgate/policy/Criterium;" (.ref x1)) (S_LOAN_TYPE : Sta Z Z.heap "com/example/lendgate/lendgate/policy/Criterium" "LOAN_TYPE" "Lcom/example/lendgate/lendgate/policy/Criterium;" (.ref x2)) (S_INSTITUTION : Sta Z Z.heap "com/example/lendgate/lendgate/policy/Criterium" "INSTITUTION" "Lcom/example/lendgate/lendgate/policy/Criterium;" (.ref x3)) (S_CAMPUS : Sta Z Z.heap "com/example/lendgate/lendgate/policy/Criterium" "CAMPUS" "Lcom/example/lendgate/lendgate/policy/Criterium;" (.ref x4)) (S_LIBRARY : Sta Z Z.heap "com/example/lendgate/lendgate/policy/Criterium" "LIBRARY" "Lcom/example/lendgate/lendgate/policy/Criterium;" (.ref x5)) (S_LOCATION : Sta Z Z.heap "com/example/lendgate/lendgate/policy/Criterium" "LOCATION" "Lcom/example/lendgate/lendgate/policy/Criterium;" (.ref x6)) (O_0 : Old Z n0 h0) :
    MetFree l (⟨"com/example/lendgate/lendgate/policy/CriteriumIsPlacePinLaw", "pick", "(I)Lcom/example/lendgate/lendgate/policy/Criterium;"⟩ : MethodName) (head1 (Jvm.Cond.code (⟨"com/example/lendgate/lendgate/policy/CriteriumIsPlacePinLaw", "pick", "(I)Lcom/example/lendgate/lendgate/policy/Criterium;"⟩ : MethodName) method_3_code 1 (some (.object "com/example/lendgate/lendgate/policy/Criterium")) :: ws) ({ frames := 0, cells := 0, slots := 0, locals := 0 } : Room)) (fun a U => a = #[(.int p1)] ∧ Z.Warmed39 U.vm ∧ U.heap = h0) (fun _ _ _ _ _ => True) (fun _ U o U' => ∃ v L, o = .returned v ∧ QP (.ref (pickA p1 x0 x1 x2 x3 x4 x5 x6)) h0 n0 v U'.heap L ∧ FrameEnd U o U' L ({ frames := 0, cells := 0, slots := 0, locals := 0 } : Room).cells ({ frames := 0, cells := 0, slots := 0, locals := 0 } : Room).slots) := by
  refine own_enter pn_1 ?_
  intro p e s m below meth c s₁ QQ hQQ hx hby hml hown hnm hret hlk hZ X0 e0
  have hown : s.vm.findClass "com/example/lendgate/lendgate/policy/CriteriumIsPlacePinLaw" = some m.cls := hown
  have hml : c.maxLocals = 1 := hml
  have hret : meth.sig.returnType = some (.object "com/example/lendgate/lendgate/policy/Criterium") := hret
  have N0 := Fr.nil n0
  have K0 := Keep.refl h0 []
  refine Goes.cast (ef_rm1 m p1) ?_
  show Goes p e below QQ (s₁.setTop (mkF m 0 #[iv p1] []))
  refine Goes.on (fun t k => XS.iloadN X0.here hx rfl (hb hby d1_0) rfl k) ?_
  show Goes p e below QQ (s₁.setTop (mkF m 1 #[iv p1] [(.int p1)]))
  by_cases hb1 : p1 = (0 : Int32)
  · refine Goes.on (fun t k => XS.ifNo X0.here hx rfl (hb hby d1_1) rfl ((if0 _ _).trans (teq hb1).2) k) ?_
    show Goes p e below QQ (s₁.setTop (mkF m 4 #[iv p1] []))
    obtain ⟨T2, X2, e2, st2⟩ := getS2 X0 hx hZ hown (host := "") (Or.inl (hw _ (List.mem_of_getElem? (i := 5) rfl))) Via.refl e0 (S_PATRON_GROUP.ext O_0.2) (g := (mkF m 4 #[iv p1] [])) rfl (hb hby d1_4)
    refine Goes.on (fun t k => st2 t k) ?_
    show Goes p e below QQ (T2.setTop (mkF m 7 #[iv p1] [(.ref x0)]))
    exact Goes.rA X2 hx hret rfl rfl hlk (hb hby d1_7) hQQ ⟨congrArg (fun z => some (Value.ref z)) (((if_pos hb1).trans rfl) : (pickA p1 x0 x1 x2 x3 x4 x5 x6) = x0).symm, N0, e2⟩ (by decide) (by decide)
  · refine Goes.on (fun t k => XS.ifYes X0.here hx rfl (pc0 := 1) (pc' := 8) rfl (hb hby d1_1) rfl ((if0 _ _).trans (feq hb1).2) (by decide) (by decide) k) ?_
    show Goes p e below QQ (s₁.setTop (mkF m 8 #[iv p1] []))
    refine Goes.on (fun t k => XS.iloadN X0.here hx rfl (hb hby d1_8) rfl k) ?_
    show Goes p e below QQ (s₁.setTop (mkF m 9 #[iv p1] [(.int p1)]))
    refine Goes.on (fun t k => XS.iconst X0.here hx rfl (hb hby d1_9) k) ?_
    show Goes p e below QQ (s₁.setTop (mkF m 10 #[iv p1] [(.int 1), (.int p1)]))
    by_cases hb3 : p1 = (1 : Int32)
    · refine Goes.on (fun t k => XS.icmpNo X0.here hx rfl (hb hby d1_10) rfl (teq hb3).2 k) ?_
      show Goes p e below QQ (s₁.setTop (mkF m 13 #[iv p1] []))
      obtain ⟨T4, X4, e4, st4⟩ := getS2 X0 hx hZ hown (host := "") (Or.inl (hw _ (List.mem_of_getElem? (i := 39) rfl))) Via.refl e0 (S_MATERIAL_TYPE.ext O_0.2) (g := (mkF m 13 #[iv p1] [])) rfl (hb hby d1_13)
      refine Goes.on (fun t k => st4 t k) ?_
      show Goes p e below QQ (T4.setTop (mkF m 16 #[iv p1] [(.ref x1)]))
      exact Goes.rA X4 hx hret rfl rfl hlk (hb hby d1_16) hQQ ⟨congrArg (fun z => some (Value.ref z)) (((if_neg hb1).trans ((if_pos hb3).trans rfl)) : (pickA p1 x0 x1 x2 x3 x4 x5 x6) = x1).symm, N0, e4⟩ (by decide) (by decide)
    · refine Goes.on (fun t k => XS.icmpYes X0.here hx rfl (pc0 := 10) (pc' := 17) rfl (hb hby d1_10) rfl (feq hb3).2 (by decide) (by decide) k) ?_
      show Goes p e below QQ (s₁.setTop (mkF m 17 #[iv p1] []))
      refine Goes.on (fun t k => XS.iloadN X0.here hx rfl (hb hby d1_17) rfl k) ?_
      show Goes p e below QQ (s₁.setTop (mkF m 18 #[iv p1] [(.int p1)]))
      refine Goes.on (fun t k => XS.iconst X0.here hx rfl (hb hby d1_18) k) ?_
      show Goes p e below QQ (s₁.setTop (mkF m 19 #[iv p1] [(.int 2), (.int p1)]))
      by_cases hb5 : p1 = (2 : Int32)
      · refine Goes.on (fun t k => XS.icmpNo X0.here hx rfl (hb hby d1_19) rfl (teq hb5).2 k) ?_
        show Goes p e below QQ (s₁.setTop (mkF m 22 #[iv p1] []))
        obtain ⟨T6, X6, e6, st6⟩ := getS2 X0 hx hZ hown (host := "") (Or.inl (hw _ (List.mem_of_getElem? (i := 37) rfl))) Via.refl e0 (S_LOAN_TYPE.ext O_0.2) (g := (mkF m 22 #[iv p1] [])) rfl (hb hby d1_22)
        refine Goes.on (fun t k => st6 t k) ?_
        show Goes p e below QQ (T6.setTop (mkF m 25 #[iv p1] [(.ref x2)]))
        exact Goes.rA X6 hx hret rfl rfl hlk (hb hby d1_25) hQQ ⟨congrArg (fun z => some (Value.ref z)) (((if_neg hb1).trans ((if_neg hb3).trans ((if_pos hb5).trans rfl))) : (pickA p1 x0 x1 x2 x3 x4 x5 x6) = x2).symm, N0, e6⟩ (by decide) (by decide)
      · refine Goes.on (fun t k => XS.icmpYes X0.here hx rfl (pc0 := 19) (pc' := 26) rfl (hb hby d1_19) rfl (feq hb5).2 (by decide) (by decide) k) ?_
        show Goes p e below QQ (s₁.setTop (mkF m 26 #[iv p1] []))
        refine Goes.on (fun t k => XS.iloadN X0.here hx rfl (hb hby d1_26) rfl k) ?_
        show Goes p e below QQ (s₁.setTop (mkF m 27 #[iv p1] [(.int p1)]))
        refine Goes.on (fun t k => XS.iconst X0.here hx rfl (hb hby d1_27) k) ?_
        show Goes p e below QQ (s₁.setTop (mkF m 28 #[iv p1] [(.int 3), (.int p1)]))
        by_cases hb7 : p1 = (3 : Int32)
        · refine Goes.on (fun t k => XS.icmpNo X0.here hx rfl (hb hby d1_28) rfl (teq hb7).2 k) ?_
          show Goes p e below QQ (s₁.setTop (mkF m 31 #[iv p1] []))
          obtain ⟨T8, X8, e8, st8⟩ := getS2 X0 hx hZ hown (host := "") (Or.inl (hw _ (List.mem_of_getElem? (i := 29) rfl))) Via.refl e0 (S_INSTITUTION.ext O_0.2) (g := (mkF m 31 #[iv p1] [])) rfl (hb hby d1_31)
          refine Goes.on (fun t k => st8 t k) ?_
          show Goes p e below QQ (T8.setTop (mkF m 34 #[iv p1] [(.ref x3)]))
          exact Goes.rA X8 hx hret rfl rfl hlk (hb hby d1_34) hQQ ⟨congrArg (fun z => some (Value.ref z)) (((if_neg hb1).trans ((if_neg hb3).trans ((if_neg hb5).trans ((if_pos hb7).trans rfl)))) : (pickA p1 x0 x1 x2 x3 x4 x5 x6) = x3).symm, N0, e8⟩ (by decide) (by decide)
        · refine Goes.on (fun t k => XS.icmpYes X0.here hx rfl (pc0 := 28) (pc' := 35) rfl (hb hby d1_28) rfl (feq hb7).2 (by decide) (by decide) k) ?_
          show Goes p e below QQ (s₁.setTop (mkF m 35 #[iv p1] []))
          refine Goes.on (fun t k => XS.iloadN X0.here hx rfl (hb hby d1_35) rfl k) ?_
          show Goes p e below QQ (s₁.setTop (mkF m 36 #[iv p1] [(.int p1)]))
          refine Goes.on (fun t k => XS.iconst X0.here hx rfl (hb hby d1_36) k) ?_
          show Goes p e below QQ (s₁.setTop (mkF m 37 #[iv p1] [(.int 4), (.int p1)]))
          by_cases hb9 : p1 = (4 : Int32)
          · refine Goes.on (fun t k => XS.icmpNo X0.here hx rfl (hb hby d1_37) rfl (teq hb9).2 k) ?_
            show Goes p e below QQ (s₁.setTop (mkF m 40 #[iv p1] []))
            obtain ⟨T10, X10, e10, st10⟩ := getS2 X0 hx hZ hown (host := "") (Or.inl (hw _ (List.mem_of_getElem? (i := 35) rfl))) Via.refl e0 (S_CAMPUS.ext O_0.2) (g := (mkF m 40 #[iv p1] [])) rfl (hb hby d1_40)
            refine Goes.on (fun t k => st10 t k) ?_
            show Goes p e below QQ (T10.setTop (mkF m 43 #[iv p1] [(.ref x4)]))
            exact Goes.rA X10 hx hret rfl rfl hlk (hb hby d1_43) hQQ ⟨congrArg (fun z => some (Value.ref z)) (((if_neg hb1).trans ((if_neg hb3).trans ((if_neg hb5).trans ((if_neg hb7).trans ((if_pos hb9).trans rfl))))) : (pickA p1 x0 x1 x2 x3 x4 x5 x6) = x4).symm, N0, e10⟩ (by decide) (by decide)
          · refine Goes.on (fun t k => XS.icmpYes X0.here hx rfl (pc0 := 37) (pc' := 44) rfl (hb hby d1_37) rfl (feq hb9).2 (by decide) (by decide) k) ?_
            show Goes p e below QQ (s₁.setTop (mkF m 44 #[iv p1] []))
            refine Goes.on (fun t k => XS.iloadN X0.here hx rfl (hb hby d1_44) rfl k) ?_
            show Goes p e below QQ (s₁.setTop (mkF m 45 #[iv p1] [(.int p1)]))
            refine Goes.on (fun t k => XS.iconst X0.here hx rfl (hb hby d1_45) k) ?_
            show Goes p e below QQ (s₁.setTop (mkF m 46 #[iv p1] [(.int 5), (.int p1)]))
            by_cases hb11 : p1 = (5 : Int32)
            · refine Goes.on (fun t k => XS.icmpNo X0.here hx rfl (hb hby d1_46) rfl (teq hb11).2 k) ?_
              show Goes p e below QQ (s₁.setTop (mkF m 49 #[iv p1] []))
              obtain ⟨T12, X12, e12, st12⟩ := getS2 X0 hx hZ hown (host := "") (Or.inl (hw _ (List.mem_of_getElem? (i := 31) rfl))) Via.refl e0 (S_LIBRARY.ext O_0.2) (g := (mkF m 49 #[iv p1] [])) rfl (hb hby d1_49)
              refine Goes.on (fun t k => st12 t k) ?_
              show Goes p e below QQ (T12.setTop (mkF m 52 #[iv p1] [(.ref x5)]))
              exact Goes.rA X12 hx hret rfl rfl hlk (hb hby d1_52) hQQ ⟨congrArg (fun z => some (Value.ref z)) (((if_neg hb1).trans ((if_neg hb3).trans ((if_neg hb5).trans ((if_neg hb7).trans ((if_neg hb9).trans ((if_pos hb11).trans rfl)))))) : (pickA p1 x0 x1 x2 x3 x4 x5 x6) = x5).symm, N0, e12⟩ (by decide) (by decide)
            · refine Goes.on (fun t k => XS.icmpYes X0.here hx rfl (pc0 := 46) (pc' := 53) rfl (hb hby d1_46) rfl (feq hb11).2 (by decide) (by decide) k) ?_
              show Goes p e below QQ (s₁.setTop (mkF m 53 #[iv p1] []))
              obtain ⟨T13, X13, e13, st13⟩ := getS2 X0 hx hZ hown (host := "") (Or.inl (hw _ (List.mem_of_getElem? (i := 33) rfl))) Via.refl e0 (S_LOCATION.ext O_0.2) (g := (mkF m 53 #[iv p1] [])) rfl (hb hby d1_53)
              refine Goes.on (fun t k => st13 t k) ?_
              show Goes p e below QQ (T13.setTop (mkF m 56 #[iv p1] [(.ref x6)]))
              exact Goes.rA X13 hx hret rfl rfl hlk (hb hby d1_56) hQQ ⟨congrArg (fun z => some (Value.ref z)) (((if_neg hb1).trans ((if_neg hb3).trans ((if_neg hb5).trans ((if_neg hb7).trans ((if_neg hb9).trans ((if_neg hb11).trans rfl)))))) : (pickA p1 x0 x1 x2 x3 x4 x5 x6) = x6).symm, N0, e13⟩ (by decide) (by decide)
theorem d2_0 : decode prog_29_method_4_code 0 = .ok (.aload_n 0, 1) := by decide +kernel
theorem d2_1 : decode prog_29_method_4_code 1 = .ok (.getfield 44, 3) := by decide +kernel
theorem d2_4 : decode prog_29_method_4_code 4 = .ok (.ireturn, 1) := by decide +kernel
theorem pn_2 : plainFor (⟨"com/example/lendgate/lendgate/policy/Criterium", "letter", "()C"⟩ : MethodName) = true := plainFor_of_name (show plainName "com/example/lendgate/lendgate/policy/Criterium" = true by first | (simp [plainName, overriddenIn]; done) | decide +kernel)
theorem ef_rm2 (m : MethodId) (x0 : Addr) : entryFrame m #[(.ref x0)] 1 = mkF m 0 #[rv x0] [] := by first | (simp [entryFrame, mkF, argsToLocals, Value.category]; done) | rfl
set_option maxRecDepth 65536 in
set_option maxHeartbeats 40000000 in
theorem rm2 (l : Launch) (Z : State) (a0 : Array Value) (hw : ∀ d ∈ tables_1, d.before a0 Z = true) (ws : List Jvm.Cond) (a1 : Addr) (p1 : Int32) (h0 : Heap) (n0 : Nat) (Z0 : n0 ≤ h0.size) (F_letter_a1 : Fld Z h0 a1 "com/example/lendgate/lendgate/policy/Criterium" "letter" "C" (.int p1)) (hc : nar .char p1 = p1) :
    MetFree l (⟨"com/example/lendgate/lendgate/policy/Criterium", "letter", "()C"⟩ : MethodName) (head1 (Jvm.Cond.code (⟨"com/example/lendgate/lendgate/policy/Criterium", "letter", "()C"⟩ : MethodName) prog_29_method_4_code 1 (some .char) :: ws) ({ frames := 0, cells := 0, slots := 0, locals := 0 } : Room)) (fun a U => a = #[(.ref a1)] ∧ Z.Warmed39 U.vm ∧ U.heap = h0) (fun _ _ _ _ _ => True) (fun _ U o U' => ∃ v L, o = .returned v ∧ QP (.int p1) h0 n0 v U'.heap L ∧ FrameEnd U o U' L ({ frames := 0, cells := 0, slots := 0, locals := 0 } : Room).cells ({ frames := 0, cells := 0, slots := 0, locals := 0 } : Room).slots) := by
  refine own_enter pn_2 ?_
  intro p e s m below meth c s₁ QQ hQQ hx hby hml hown hnm hret hlk hZ X0 e0
  have hown : s.vm.findClass "com/example/lendgate/lendgate/policy/Criterium" = some m.cls := hown
  have hml : c.maxLocals = 1 := hml
  have hret : meth.sig.returnType = some .char := hret
  have N0 := Fr.nil n0
  have K0 := Keep.refl h0 []
  refine Goes.cast (ef_rm2 m a1) ?_
  show Goes p e below QQ (s₁.setTop (mkF m 0 #[rv a1] []))
  refine Goes.on (fun t k => XS.aloadN X0.here hx rfl (hb hby d2_0) rfl rfl k) ?_
  show Goes p e below QQ (s₁.setTop (mkF m 1 #[rv a1] [(.ref a1)]))
  obtain ⟨T1, X1, e1, st1⟩ := getF X0 hx hZ hown (host := "") (Or.inl (hw _ (List.mem_of_getElem? (i := 13) rfl))) Via.refl e0 F_letter_a1 (g := (mkF m 1 #[rv a1] [(.ref a1)])) rfl rfl (hb hby d2_1)
  refine Goes.on (fun t k => st1 t k) ?_
  show Goes p e below QQ (T1.setTop (mkF m 4 #[rv a1] [(.int p1)]))
  exact Goes.rN X1 hx (t := .char) hret (by simp) hlk (hb hby d2_4) hQQ ⟨congrArg (fun z => some (Value.int z)) hc, N0, e1⟩ (by decide) (by decide)
theorem d4_0 : decode jdk_37_method_2_code 0 = .ok (.aload_n 0, 1) := by decide +kernel
theorem d4_1 : decode jdk_37_method_2_code 1 = .ok (.getfield 7, 3) := by decide +kernel
theorem d4_4 : decode jdk_37_method_2_code 4 = .ok (.ireturn, 1) := by decide +kernel
theorem pn_4 : plainFor (⟨"java/lang/Enum", "ordinal", "()I"⟩ : MethodName) = true := plainFor_of_name (show plainName "java/lang/Enum" = true by first | (simp [plainName, overriddenIn]; done) | decide +kernel)
theorem ef_rm3 (m : MethodId) (x0 : Addr) : entryFrame m #[(.ref x0)] 1 = mkF m 0 #[rv x0] [] := by first | (simp [entryFrame, mkF, argsToLocals, Value.category]; done) | rfl
set_option maxRecDepth 65536 in
set_option maxHeartbeats 40000000 in
theorem rm3 (l : Launch) (Z : State) (a0 : Array Value) (hw : ∀ d ∈ tables_1, d.before a0 Z = true) (ws : List Jvm.Cond) (a1 : Addr) (p1 : Int32) (h0 : Heap) (n0 : Nat) (Z0 : n0 ≤ h0.size) (F_ordinal_a1 : Fld Z h0 a1 "java/lang/Enum" "ordinal" "I" (.int p1)) :
    MetFree l (⟨"java/lang/Enum", "ordinal", "()I"⟩ : MethodName) (head1 (Jvm.Cond.code (⟨"java/lang/Enum", "ordinal", "()I"⟩ : MethodName) jdk_37_method_2_code 1 (some .int) :: ws) ({ frames := 0, cells := 0, slots := 0, locals := 0 } : Room)) (fun a U => a = #[(.ref a1)] ∧ Z.Warmed39 U.vm ∧ U.heap = h0) (fun _ _ _ _ _ => True) (fun _ U o U' => ∃ v L, o = .returned v ∧ QP (.int p1) h0 n0 v U'.heap L ∧ FrameEnd U o U' L ({ frames := 0, cells := 0, slots := 0, locals := 0 } : Room).cells ({ frames := 0, cells := 0, slots := 0, locals := 0 } : Room).slots) := by
  refine own_enter pn_4 ?_
  intro p e s m below meth c s₁ QQ hQQ hx hby hml hown hnm hret hlk hZ X0 e0
  have hown : s.vm.findClass "java/lang/Enum" = some m.cls := hown
  have hml : c.maxLocals = 1 := hml
  have hret : meth.sig.returnType = some .int := hret
  have N0 := Fr.nil n0
  have K0 := Keep.refl h0 []
  refine Goes.cast (ef_rm3 m a1) ?_
  show Goes p e below QQ (s₁.setTop (mkF m 0 #[rv a1] []))
  refine Goes.on (fun t k => XS.aloadN X0.here hx rfl (hb hby d4_0) rfl rfl k) ?_
  show Goes p e below QQ (s₁.setTop (mkF m 1 #[rv a1] [(.ref a1)]))
  obtain ⟨T1, X1, e1, st1⟩ := getF X0 hx hZ hown (host := "") (Or.inl (hw _ (List.mem_of_getElem? (i := 27) rfl))) Via.refl e0 F_ordinal_a1 (g := (mkF m 1 #[rv a1] [(.ref a1)])) rfl rfl (hb hby d4_1)
  refine Goes.on (fun t k => st1 t k) ?_
  show Goes p e below QQ (T1.setTop (mkF m 4 #[rv a1] [(.int p1)]))
  exact Goes.rI X1 hx hret hlk (hb hby d4_4) hQQ ⟨rfl, N0, e1⟩ (by decide) (by decide)
theorem d3_0 : decode prog_29_method_6_code 0 = .ok (.aload_n 0, 1) := by decide +kernel
theorem d3_1 : decode prog_29_method_6_code 1 = .ok (.invokevirtual 52, 3) := by decide +kernel
theorem d3_4 : decode prog_29_method_6_code 4 = .ok (.tableswitch 44 0 6 #[58, 58, 58, 54, 54, 54, 54], 44) := by decide +kernel
theorem d3_48 : decode prog_29_method_6_code 48 = .ok (.new 56, 3) := by decide +kernel
theorem d3_51 : decode prog_29_method_6_code 51 = .ok (.dup, 1) := by decide +kernel
theorem d3_52 : decode prog_29_method_6_code 52 = .ok (.aconst_null, 1) := by decide +kernel
theorem d3_53 : decode prog_29_method_6_code 53 = .ok (.aconst_null, 1) := by decide +kernel
theorem d3_54 : decode prog_29_method_6_code 54 = .ok (.invokespecial 58, 3) := by decide +kernel
theorem d3_57 : decode prog_29_method_6_code 57 = .ok (.athrow, 1) := by decide +kernel
theorem d3_58 : decode prog_29_method_6_code 58 = .ok (.iconst 1, 1) := by decide +kernel
theorem d3_59 : decode prog_29_method_6_code 59 = .ok (.goto 4, 3) := by decide +kernel
theorem d3_62 : decode prog_29_method_6_code 62 = .ok (.iconst 0, 1) := by decide +kernel
theorem d3_63 : decode prog_29_method_6_code 63 = .ok (.ireturn, 1) := by decide +kernel
theorem pn_3 : plainFor (⟨"com/example/lendgate/lendgate/policy/Criterium", "isPlace", "()Z"⟩ : MethodName) = true := plainFor_of_name (show plainName "com/example/lendgate/lendgate/policy/Criterium" = true by first | (simp [plainName, overriddenIn]; done) | decide +kernel)
theorem ef_rm4_0 (m : MethodId) (x0 : Addr) : entryFrame m #[(.ref x0)] 1 = mkF m 0 #[rv x0] [] := by first | (simp [entryFrame, mkF, argsToLocals, Value.category]; done) | rfl
theorem pd_0 : parseMethodDescriptor "()I" = some ⟨[], some .int⟩ := by decide +kernel
set_option maxRecDepth 65536 in
set_option maxHeartbeats 40000000 in
theorem rm4_0 (l : Launch) (Z : State) (a0 : Array Value) (hw : ∀ d ∈ tables_1, d.before a0 Z = true) (ws : List Jvm.Cond) (a1 : Addr) (h0 : Heap) (n0 : Nat) (Z0 : n0 ≤ h0.size) (E_a1 : Exa Z h0 a1 "com/example/lendgate/lendgate/policy/Criterium") (F_ordinal_a1 : Fld Z h0 a1 "java/lang/Enum" "ordinal" "I" (.int 0)) :
    MetFree l (⟨"com/example/lendgate/lendgate/policy/Criterium", "isPlace", "()Z"⟩ : MethodName) (head1 (Jvm.Cond.code (⟨"com/example/lendgate/lendgate/policy/Criterium", "isPlace", "()Z"⟩ : MethodName) prog_29_method_6_code 1 (some .boolean) :: ws) ({ frames := 1, cells := 0, slots := 0, locals := 12 } : Room)) (fun a U => a = #[(.ref a1)] ∧ Z.Warmed39 U.vm ∧ U.heap = h0) (fun _ _ _ _ _ => True) (fun _ U o U' => ∃ v L, o = .returned v ∧ QP (.int (0 : Int32)) h0 n0 v U'.heap L ∧ FrameEnd U o U' L ({ frames := 1, cells := 0, slots := 0, locals := 12 } : Room).cells ({ frames := 1, cells := 0, slots := 0, locals := 12 } : Room).slots) := by
  refine own_enter pn_3 ?_
  intro p e s m below meth c s₁ QQ hQQ hx hby hml hown hnm hret hlk hZ X0 e0
  have hown : s.vm.findClass "com/example/lendgate/lendgate/policy/Criterium" = some m.cls := hown
  have hml : c.maxLocals = 1 := hml
  have hret : meth.sig.returnType = some .boolean := hret
  have N0 := Fr.nil n0
  have K0 := Keep.refl h0 []
  refine Goes.cast (ef_rm4_0 m a1) ?_
  show Goes p e below QQ (s₁.setTop (mkF m 0 #[rv a1] []))
  refine Goes.on (fun t k => XS.aloadN X0.here hx rfl (hb hby d3_0) rfl rfl k) ?_
  show Goes p e below QQ (s₁.setTop (mkF m 1 #[rv a1] [(.ref a1)]))
  obtain ⟨cq1, kq1, q1a, q1b, q1c⟩ := isOf hZ e0 E_a1
  obtain ⟨_, _, ⟨T1, L1, k1, n1⟩, -, X1, ⟨Lc1, hQ1, l1, y1, z1⟩, st1⟩ := X0.virtualBackUp hx (x := (⟨"com/example/lendgate/lendgate/policy/Criterium", "ordinal", "()I"⟩ : MethodName)) (y := (⟨"java/lang/Enum", "ordinal", "()I"⟩ : MethodName)) (owner := "java/lang/Enum") hown (mvT hZ (hw _ (List.mem_of_getElem? (i := 20) rfl))) (mvT hZ (hw _ (List.mem_of_getElem? (i := 21) rfl))) (mvT hZ (hw _ (List.mem_of_getElem? (i := 22) rfl))) (by decide) (mvT hZ (hw _ (List.mem_of_getElem? (i := 24) rfl))) (mvT hZ (hw _ (List.mem_of_getElem? (i := 23) rfl))) (backOf (W := 0) (rm3 l Z a0 hw [] a1 (0 : Int32) h0 n0 (Nat.le_trans Z0 K0.1) F_ordinal_a1) hZ (hw _ (List.mem_of_getElem? (i := 26) rfl)) (hw _ (List.mem_of_getElem? (i := 25) rfl)) (by decide) (by decide)) q1a q1c (g := (mkF m 1 #[rv a1] [(.ref a1)])) rfl (by rw [hml]; rfl) (Steps.refl _) (argsL := []) (rest := []) (lenOf pd_0 rfl) rfl (by show 2 * 0 + _ ≤ _; exact Nat.le_of_eq rfl) (hb hby d3_1) (fun _ _ => ⟨rfl, e0, (by decide : 0 + 0 ≤ _), (by decide : 0 + 0 ≤ _)⟩)
  dsimp only [Pt.U, Pt.locs, Pt.cells, Pt.slots] at X1 l1 y1 z1 st1 hQ1
  subst l1 y1 z1
  obtain ⟨rfl, M1, e1⟩ := hQ1
  have N1 := Fr.app N0 M1
  refine Goes.on (fun t k => st1.trans k) ?_
  show Goes p e below QQ (T1.setTop (mkF m 4 #[rv a1] [(.int 0)]))
  refine Goes.on (fun t k => XS.tswIn X1.here hx rfl (pc0 := 4) (pc' := 62) rfl (hb hby d3_4) rfl (by decide) (o := 58) rfl (by decide) (by decide) k) ?_
  show Goes p e below QQ (T1.setTop (mkF m 62 #[rv a1] []))
  refine Goes.on (fun t k => XS.iconst X1.here hx rfl (hb hby d3_62) k) ?_
  show Goes p e below QQ (T1.setTop (mkF m 63 #[rv a1] [(.int 0)]))
  exact Goes.rN X1 hx (t := .boolean) hret (by simp) hlk (hb hby d3_63) hQQ ⟨rfl, N1, e1⟩ (by decide) (by decide)
theorem ef_rm4_1 (m : MethodId) (x0 : Addr) : entryFrame m #[(.ref x0)] 1 = mkF m 0 #[rv x0] [] := by first | (simp [entryFrame, mkF, argsToLocals, Value.category]; done) | rfl
set_option maxRecDepth 65536 in
set_option maxHeartbeats 40000000 in
theorem rm4_1 (l : Launch) (Z : State) (a0 : Array Value) (hw : ∀ d ∈ tables_1, d.before a0 Z = true) (ws : List Jvm.Cond) (a1 : Addr) (h0 : Heap) (n0 : Nat) (Z0 : n0 ≤ h0.size) (E_a1 : Exa Z h0 a1 "com/example/lendgate/lendgate/policy/Criterium") (F_ordinal_a1 : Fld Z h0 a1 "java/lang/Enum" "ordinal" "I" (.int 1)) :
    MetFree l (⟨"com/example/lendgate/lendgate/policy/Criterium", "isPlace", "()Z"⟩ : MethodName) (head1 (Jvm.Cond.code (⟨"com/example/lendgate/lendgate/policy/Criterium", "isPlace", "()Z"⟩ : MethodName) prog_29_method_6_code 1 (some .boolean) :: ws) ({ frames := 1, cells := 0, slots := 0, locals := 12 } : Room)) (fun a U => a = #[(.ref a1)] ∧ Z.Warmed39 U.vm ∧ U.heap = h0) (fun _ _ _ _ _ => True) (fun _ U o U' => ∃ v L, o = .returned v ∧ QP (.int (0 : Int32)) h0 n0 v U'.heap L ∧ FrameEnd U o U' L ({ frames := 1, cells := 0, slots := 0, locals := 12 } : Room).cells ({ frames := 1, cells := 0, slots := 0, locals := 12 } : Room).slots) := by
  refine own_enter pn_3 ?_
  intro p e s m below meth c s₁ QQ hQQ hx hby hml hown hnm hret hlk hZ X0 e0
  have hown : s.vm.findClass "com/example/lendgate/lendgate/policy/Criterium" = some m.cls := hown
  have hml : c.maxLocals = 1 := hml
  have hret : meth.sig.returnType = some .boolean := hret
  have N0 := Fr.nil n0
  have K0 := Keep.refl h0 []
  refine Goes.cast (ef_rm4_1 m a1) ?_
  show Goes p e below QQ (s₁.setTop (mkF m 0 #[rv a1] []))
  refine Goes.on (fun t k => XS.aloadN X0.here hx rfl (hb hby d3_0) rfl rfl k) ?_
  show Goes p e below QQ (s₁.setTop (mkF m 1 #[rv a1] [(.ref a1)]))
  obtain ⟨cq1, kq1, q1a, q1b, q1c⟩ := isOf hZ e0 E_a1
  obtain ⟨_, _, ⟨T1, L1, k1, n1⟩, -, X1, ⟨Lc1, hQ1, l1, y1, z1⟩, st1⟩ := X0.virtualBackUp hx (x := (⟨"com/example/lendgate/lendgate/policy/Criterium", "ordinal", "()I"⟩ : MethodName)) (y := (⟨"java/lang/Enum", "ordinal", "()I"⟩ : MethodName)) (owner := "java/lang/Enum") hown (mvT hZ (hw _ (List.mem_of_getElem? (i := 20) rfl))) (mvT hZ (hw _ (List.mem_of_getElem? (i := 21) rfl))) (mvT hZ (hw _ (List.mem_of_getElem? (i := 22) rfl))) (by decide) (mvT hZ (hw _ (List.mem_of_getElem? (i := 24) rfl))) (mvT hZ (hw _ (List.mem_of_getElem? (i := 23) rfl))) (backOf (W := 0) (rm3 l Z a0 hw [] a1 (1 : Int32) h0 n0 (Nat.le_trans Z0 K0.1) F_ordinal_a1) hZ (hw _ (List.mem_of_getElem? (i := 26) rfl)) (hw _ (List.mem_of_getElem? (i := 25) rfl)) (by decide) (by decide)) q1a q1c (g := (mkF m 1 #[rv a1] [(.ref a1)])) rfl (by rw [hml]; rfl) (Steps.refl _) (argsL := []) (rest := []) (lenOf pd_0 rfl) rfl (by show 2 * 0 + _ ≤ _; exact Nat.le_of_eq rfl) (hb hby d3_1) (fun _ _ => ⟨rfl, e0, (by decide : 0 + 0 ≤ _), (by decide : 0 + 0 ≤ _)⟩)
  dsimp only [Pt.U, Pt.locs, Pt.cells, Pt.slots] at X1 l1 y1 z1 st1 hQ1
  subst l1 y1 z1
  obtain ⟨rfl, M1, e1⟩ := hQ1
  have N1 := Fr.app N0 M1
  refine Goes.on (fun t k => st1.trans k) ?_
  show Goes p e below QQ (T1.setTop (mkF m 4 #[rv a1] [(.int 1)]))
  refine Goes.on (fun t k => XS.tswIn X1.here hx rfl (pc0 := 4) (pc' := 62) rfl (hb hby d3_4) rfl (by decide) (o := 58) rfl (by decide) (by decide) k) ?_
  show Goes p e below QQ (T1.setTop (mkF m 62 #[rv a1] []))
  refine Goes.on (fun t k => XS.iconst X1.here hx rfl (hb hby d3_62) k) ?_
  show Goes p e below QQ (T1.setTop (mkF m 63 #[rv a1] [(.int 0)]))
  exact Goes.rN X1 hx (t := .boolean) hret (by simp) hlk (hb hby d3_63) hQQ ⟨rfl, N1, e1⟩ (by decide) (by decide)
theorem ef_rm4_2 (m : MethodId) (x0 : Addr) : entryFrame m #[(.ref x0)] 1 = mkF m 0 #[rv x0] [] := by first | (simp [entryFrame, mkF, argsToLocals, Value.category]; done) | rfl
set_option maxRecDepth 65536 in
set_option maxHeartbeats 40000000 in
theorem rm4_2 (l : Launch) (Z : State) (a0 : Array Value) (hw : ∀ d ∈ tables_1, d.before a0 Z = true) (ws : List Jvm.Cond) (a1 : Addr) (h0 : Heap) (n0 : Nat) (Z0 : n0 ≤ h0.size) (E_a1 : Exa Z h0 a1 "com/example/lendgate/lendgate/policy/Criterium") (F_ordinal_a1 : Fld Z h0 a1 "java/lang/Enum" "ordinal" "I" (.int 2)) :
    MetFree l (⟨"com/example/lendgate/lendgate/policy/Criterium", "isPlace", "()Z"⟩ : MethodName) (head1 (Jvm.Cond.code (⟨"com/example/lendgate/lendgate/policy/Criterium", "isPlace", "()Z"⟩ : MethodName) prog_29_method_6_code 1 (some .boolean) :: ws) ({ frames := 1, cells := 0, slots := 0, locals := 12 } : Room)) (fun a U => a = #[(.ref a1)] ∧ Z.Warmed39 U.vm ∧ U.heap = h0) (fun _ _ _ _ _ => True) (fun _ U o U' => ∃ v L, o = .returned v ∧ QP (.int (0 : Int32)) h0 n0 v U'.heap L ∧ FrameEnd U o U' L ({ frames := 1, cells := 0, slots := 0, locals := 12 } : Room).cells ({ frames := 1, cells := 0, slots := 0, locals := 12 } : Room).slots) := by
  refine own_enter pn_3 ?_
  intro p e s m below meth c s₁ QQ hQQ hx hby hml hown hnm hret hlk hZ X0 e0
  have hown : s.vm.findClass "com/example/lendgate/lendgate/policy/Criterium" = some m.cls := hown
  have hml : c.maxLocals = 1 := hml
  have hret : meth.sig.returnType = some .boolean := hret
  have N0 := Fr.nil n0
  have K0 := Keep.refl h0 []
  refine Goes.cast (ef_rm4_2 m a1) ?_
  show Goes p e below QQ (s₁.setTop (mkF m 0 #[rv a1] []))
  refine Goes.on (fun t k => XS.aloadN X0.here hx rfl (hb hby d3_0) rfl rfl k) ?_
  show Goes p e below QQ (s₁.setTop (mkF m 1 #[rv a1] [(.ref a1)]))
  obtain ⟨cq1, kq1, q1a, q1b, q1c⟩ := isOf hZ e0 E_a1
  obtain ⟨_, _, ⟨T1, L1, k1, n1⟩, -, X1, ⟨Lc1, hQ1, l1, y1, z1⟩, st1⟩ := X0.virtualBackUp hx (x := (⟨"com/example/lendgate/lendgate/policy/Criterium", "ordinal", "()I"⟩ : MethodName)) (y := (⟨"java/lang/Enum", "ordinal", "()I"⟩ : MethodName)) (owner := "java/lang/Enum") hown (mvT hZ (hw _ (List.mem_of_getElem? (i := 20) rfl))) (mvT hZ (hw _ (List.mem_of_getElem? (i := 21) rfl))) (mvT hZ (hw _ (List.mem_of_getElem? (i := 22) rfl))) (by decide) (mvT hZ (hw _ (List.mem_of_getElem? (i := 24) rfl))) (mvT hZ (hw _ (List.mem_of_getElem? (i := 23) rfl))) (backOf (W := 0) (rm3 l Z a0 hw [] a1 (2 : Int32) h0 n0 (Nat.le_trans Z0 K0.1) F_ordinal_a1) hZ (hw _ (List.mem_of_getElem? (i := 26) rfl)) (hw _ (List.mem_of_getElem? (i := 25) rfl)) (by decide) (by decide)) q1a q1c (g := (mkF m 1 #[rv a1] [(.ref a1)])) rfl (by rw [hml]; rfl) (Steps.refl _) (argsL := []) (rest := []) (lenOf pd_0 rfl) rfl (by show 2 * 0 + _ ≤ _; exact Nat.le_of_eq rfl) (hb hby d3_1) (fun _ _ => ⟨rfl, e0, (by decide : 0 + 0 ≤ _), (by decide : 0 + 0 ≤ _)⟩)
  dsimp only [Pt.U, Pt.locs, Pt.cells, Pt.slots] at X1 l1 y1 z1 st1 hQ1
  subst l1 y1 z1
  obtain ⟨rfl, M1, e1⟩ := hQ1
  have N1 := Fr.app N0 M1
  refine Goes.on (fun t k => st1.trans k) ?_
  show Goes p e below QQ (T1.setTop (mkF m 4 #[rv a1] [(.int 2)]))
  refine Goes.on (fun t k => XS.tswIn X1.here hx rfl (pc0 := 4) (pc' := 62) rfl (hb hby d3_4) rfl (by decide) (o := 58) rfl (by decide) (by decide) k) ?_
  show Goes p e below QQ (T1.setTop (mkF m 62 #[rv a1] []))
  refine Goes.on (fun t k => XS.iconst X1.here hx rfl (hb hby d3_62) k) ?_
  show Goes p e below QQ (T1.setTop (mkF m 63 #[rv a1] [(.int 0)]))
  exact Goes.rN X1 hx (t := .boolean) hret (by simp) hlk (hb hby d3_63) hQQ ⟨rfl, N1, e1⟩ (by decide) (by decide)
theorem ef_rm4_3 (m : MethodId) (x0 : Addr) : entryFrame m #[(.ref x0)] 1 = mkF m 0 #[rv x0] [] := by first | (simp [entryFrame, mkF, argsToLocals, Value.category]; done) | rfl
set_option maxRecDepth 65536 in
set_option maxHeartbeats 40000000 in
theorem rm4_3 (l : Launch) (Z : State) (a0 : Array Value) (hw : ∀ d ∈ tables_1, d.before a0 Z = true) (ws : List Jvm.Cond) (a1 : Addr) (h0 : Heap) (n0 : Nat) (Z0 : n0 ≤ h0.size) (E_a1 : Exa Z h0 a1 "com/example/lendgate/lendgate/policy/Criterium") (F_ordinal_a1 : Fld Z h0 a1 "java/lang/Enum" "ordinal" "I" (.int 3)) :
    MetFree l (⟨"com/example/lendgate/lendgate/policy/Criterium", "isPlace", "()Z"⟩ : MethodName) (head1 (Jvm.Cond.code (⟨"com/example/lendgate/lendgate/policy/Criterium", "isPlace", "()Z"⟩ : MethodName) prog_29_method_6_code 1 (some .boolean) :: ws) ({ frames := 1, cells := 0, slots := 0, locals := 12 } : Room)) (fun a U => a = #[(.ref a1)] ∧ Z.Warmed39 U.vm ∧ U.heap = h0) (fun _ _ _ _ _ => True) (fun _ U o U' => ∃ v L, o = .returned v ∧ QP (.int (1 : Int32)) h0 n0 v U'.heap L ∧ FrameEnd U o U' L ({ frames := 1, cells := 0, slots := 0, locals := 12 } : Room).cells ({ frames := 1, cells := 0, slots := 0, locals := 12 } : Room).slots) := by
  refine own_enter pn_3 ?_
  intro p e s m below meth c s₁ QQ hQQ hx hby hml hown hnm hret hlk hZ X0 e0
  have hown : s.vm.findClass "com/example/lendgate/lendgate/policy/Criterium" = some m.cls := hown
  have hml : c.maxLocals = 1 := hml
  have hret : meth.sig.returnType = some .boolean := hret
  have N0 := Fr.nil n0
  have K0 := Keep.refl h0 []
  refine Goes.cast (ef_rm4_3 m a1) ?_
  show Goes p e below QQ (s₁.setTop (mkF m 0 #[rv a1] []))
  refine Goes.on (fun t k => XS.aloadN X0.here hx rfl (hb hby d3_0) rfl rfl k) ?_
  show Goes p e below QQ (s₁.setTop (mkF m 1 #[rv a1] [(.ref a1)]))
  obtain ⟨cq1, kq1, q1a, q1b, q1c⟩ := isOf hZ e0 E_a1
  obtain ⟨_, _, ⟨T1, L1, k1, n1⟩, -, X1, ⟨Lc1, hQ1, l1, y1, z1⟩, st1⟩ := X0.virtualBackUp hx (x := (⟨"com/example/lendgate/lendgate/policy/Criterium", "ordinal", "()I"⟩ : MethodName)) (y := (⟨"java/lang/Enum", "ordinal", "()I"⟩ : MethodName)) (owner := "java/lang/Enum") hown (mvT hZ (hw _ (List.mem_of_getElem? (i := 20) rfl))) (mvT hZ (hw _ (List.mem_of_getElem? (i := 21) rfl))) (mvT hZ (hw _ (List.mem_of_getElem? (i := 22) rfl))) (by decide) (mvT hZ (hw _ (List.mem_of_getElem? (i := 24) rfl))) (mvT hZ (hw _ (List.mem_of_getElem? (i := 23) rfl))) (backOf (W := 0) (rm3 l Z a0 hw [] a1 (3 : Int32) h0 n0 (Nat.le_trans Z0 K0.1) F_ordinal_a1) hZ (hw _ (List.mem_of_getElem? (i := 26) rfl)) (hw _ (List.mem_of_getElem? (i := 25) rfl)) (by decide) (by decide)) q1a q1c (g := (mkF m 1 #[rv a1] [(.ref a1)])) rfl (by rw [hml]; rfl) (Steps.refl _) (argsL := []) (rest := []) (lenOf pd_0 rfl) rfl (by show 2 * 0 + _ ≤ _; exact Nat.le_of_eq rfl) (hb hby d3_1) (fun _ _ => ⟨rfl, e0, (by decide : 0 + 0 ≤ _), (by decide : 0 + 0 ≤ _)⟩)
  dsimp only [Pt.U, Pt.locs, Pt.cells, Pt.slots] at X1 l1 y1 z1 st1 hQ1
  subst l1 y1 z1
  obtain ⟨rfl, M1, e1⟩ := hQ1
  have N1 := Fr.app N0 M1
  refine Goes.on (fun t k => st1.trans k) ?_
  show Goes p e below QQ (T1.setTop (mkF m 4 #[rv a1] [(.int 3)]))
  refine Goes.on (fun t k => XS.tswIn X1.here hx rfl (pc0 := 4) (pc' := 58) rfl (hb hby d3_4) rfl (by decide) (o := 54) rfl (by decide) (by decide) k) ?_
  show Goes p e below QQ (T1.setTop (mkF m 58 #[rv a1] []))
  refine Goes.on (fun t k => XS.iconst X1.here hx rfl (hb hby d3_58) k) ?_
  show Goes p e below QQ (T1.setTop (mkF m 59 #[rv a1] [(.int 1)]))
  refine Goes.on (fun t k => XS.goto X1.here hx rfl (pc0 := 59) (pc' := 63) rfl (hb hby d3_59) (by decide) (by decide) k) ?_
  show Goes p e below QQ (T1.setTop (mkF m 63 #[rv a1] [(.int 1)]))
  exact Goes.rN X1 hx (t := .boolean) hret (by simp) hlk (hb hby d3_63) hQQ ⟨rfl, N1, e1⟩ (by decide) (by decide)
theorem ef_rm4_4 (m : MethodId) (x0 : Addr) : entryFrame m #[(.ref x0)] 1 = mkF m 0 #[rv x0] [] := by first | (simp [entryFrame, mkF, argsToLocals, Value.category]; done) | rfl
set_option maxRecDepth 65536 in
set_option maxHeartbeats 40000000 in
theorem rm4_4 (l : Launch) (Z : State) (a0 : Array Value) (hw : ∀ d ∈ tables_1, d.before a0 Z = true) (ws : List Jvm.Cond) (a1 : Addr) (h0 : Heap) (n0 : Nat) (Z0 : n0 ≤ h0.size) (E_a1 : Exa Z h0 a1 "com/example/lendgate/lendgate/policy/Criterium") (F_ordinal_a1 : Fld Z h0 a1 "java/lang/Enum" "ordinal" "I" (.int 4)) :
    MetFree l (⟨"com/example/lendgate/lendgate/policy/Criterium", "isPlace", "()Z"⟩ : MethodName) (head1 (Jvm.Cond.code (⟨"com/example/lendgate/lendgate/policy/Criterium", "isPlace", "()Z"⟩ : MethodName) prog_29_method_6_code 1 (some .boolean) :: ws) ({ frames := 1, cells := 0, slots := 0, locals := 12 } : Room)) (fun a U => a = #[(.ref a1)] ∧ Z.Warmed39 U.vm ∧ U.heap = h0) (fun _ _ _ _ _ => True) (fun _ U o U' => ∃ v L, o = .returned v ∧ QP (.int (1 : Int32)) h0 n0 v U'.heap L ∧ FrameEnd U o U' L ({ frames := 1, cells := 0, slots := 0, locals := 12 } : Room).cells ({ frames := 1, cells := 0, slots := 0, locals := 12 } : Room).slots) := by
  refine own_enter pn_3 ?_
  intro p e s m below meth c s₁ QQ hQQ hx hby hml hown hnm hret hlk hZ X0 e0
  have hown : s.vm.findClass "com/example/lendgate/lendgate/policy/Criterium" = some m.cls := hown
  have hml : c.maxLocals = 1 := hml
  have hret : meth.sig.returnType = some .boolean := hret
  have N0 := Fr.nil n0
  have K0 := Keep.refl h0 []
  refine Goes.cast (ef_rm4_4 m a1) ?_
  show Goes p e below QQ (s₁.setTop (mkF m 0 #[rv a1] []))
  refine Goes.on (fun t k => XS.aloadN X0.here hx rfl (hb hby d3_0) rfl rfl k) ?_
  show Goes p e below QQ (s₁.setTop (mkF m 1 #[rv a1] [(.ref a1)]))
  obtain ⟨cq1, kq1, q1a, q1b, q1c⟩ := isOf hZ e0 E_a1
  obtain ⟨_, _, ⟨T1, L1, k1, n1⟩, -, X1, ⟨Lc1, hQ1, l1, y1, z1⟩, st1⟩ := X0.virtualBackUp hx (x := (⟨"com/example/lendgate/lendgate/policy/Criterium", "ordinal", "()I"⟩ : MethodName)) (y := (⟨"java/lang/Enum", "ordinal", "()I"⟩ : MethodName)) (owner := "java/lang/Enum") hown (mvT hZ (hw _ (List.mem_of_getElem? (i := 20) rfl))) (mvT hZ (hw _ (List.mem_of_getElem? (i := 21) rfl))) (mvT hZ (hw _ (List.mem_of_getElem? (i := 22) rfl))) (by decide) (mvT hZ (hw _ (List.mem_of_getElem? (i := 24) rfl))) (mvT hZ (hw _ (List.mem_of_getElem? (i := 23) rfl))) (backOf (W := 0) (rm3 l Z a0 hw [] a1 (4 : Int32) h0 n0 (Nat.le_trans Z0 K0.1) F_ordinal_a1) hZ (hw _ (List.mem_of_getElem? (i := 26) rfl)) (hw _ (List.mem_of_getElem? (i := 25) rfl)) (by decide) (by decide)) q1a q1c (g := (mkF m 1 #[rv a1] [(.ref a1)])) rfl (by rw [hml]; rfl) (Steps.refl _) (argsL := []) (rest := []) (lenOf pd_0 rfl) rfl (by show 2 * 0 + _ ≤ _; exact Nat.le_of_eq rfl) (hb hby d3_1) (fun _ _ => ⟨rfl, e0, (by decide : 0 + 0 ≤ _), (by decide : 0 + 0 ≤ _)⟩)
  dsimp only [Pt.U, Pt.locs, Pt.cells, Pt.slots] at X1 l1 y1 z1 st1 hQ1
  subst l1 y1 z1
  obtain ⟨rfl, M1, e1⟩ := hQ1
  have N1 := Fr.app N0 M1
  refine Goes.on (fun t k => st1.trans k) ?_
  show Goes p e below QQ (T1.setTop (mkF m 4 #[rv a1] [(.int 4)]))
  refine Goes.on (fun t k => XS.tswIn X1.here hx rfl (pc0 := 4) (pc' := 58) rfl (hb hby d3_4) rfl (by decide) (o := 54) rfl (by decide) (by decide) k) ?_
  show Goes p e below QQ (T1.setTop (mkF m 58 #[rv a1] []))
  refine Goes.on (fun t k => XS.iconst X1.here hx rfl (hb hby d3_58) k) ?_
  show Goes p e below QQ (T1.setTop (mkF m 59 #[rv a1] [(.int 1)]))
  refine Goes.on (fun t k => XS.goto X1.here hx rfl (pc0 := 59) (pc' := 63) rfl (hb hby d3_59) (by decide) (by decide) k) ?_
  show Goes p e below QQ (T1.setTop (mkF m 63 #[rv a1] [(.int 1)]))
  exact Goes.rN X1 hx (t := .boolean) hret (by simp) hlk (hb hby d3_63) hQQ ⟨rfl, N1, e1⟩ (by decide) (by decide)
theorem ef_rm4_5 (m : MethodId) (x0 : Addr) : entryFrame m #[(.ref x0)] 1 = mkF m 0 #[rv x0] [] := by first | (simp [entryFrame, mkF, argsToLocals, Value.category]; done) | rfl
set_option maxRecDepth 65536 in
set_option maxHeartbeats 40000000 in
theorem rm4_5 (l : Launch) (Z : State) (a0 : Array Value) (hw : ∀ d ∈ tables_1, d.before a0 Z = true) (ws : List Jvm.Cond) (a1 : Addr) (h0 : Heap) (n0 : Nat) (Z0 : n0 ≤ h0.size) (E_a1 : Exa Z h0 a1 "com/example/lendgate/lendgate/policy/Criterium") (F_ordinal_a1 : Fld Z h0 a1 "java/lang/Enum" "ordinal" "I" (.int 5)) :
    MetFree l (⟨"com/example/lendgate/lendgate/policy/Criterium", "isPlace", "()Z"⟩ : MethodName) (head1 (Jvm.Cond.code (⟨"com/example/lendgate/lendgate/policy/Criterium", "isPlace", "()Z"⟩ : MethodName) prog_29_method_6_code 1 (some .boolean) :: ws) ({ frames := 1, cells := 0, slots := 0, locals := 12 } : Room)) (fun a U => a = #[(.ref a1)] ∧ Z.Warmed39 U.vm ∧ U.heap = h0) (fun _ _ _ _ _ => True) (fun _ U o U' => ∃ v L, o = .returned v ∧ QP (.int (1 : Int32)) h0 n0 v U'.heap L ∧ FrameEnd U o U' L ({ frames := 1, cells := 0, slots := 0, locals := 12 } : Room).cells ({ frames := 1, cells := 0, slots := 0, locals := 12 } : Room).slots) := by
  refine own_enter pn_3 ?_
  intro p e s m below meth c s₁ QQ hQQ hx hby hml hown hnm hret hlk hZ X0 e0
  have hown : s.vm.findClass "com/example/lendgate/lendgate/policy/Criterium" = some m.cls := hown
  have hml : c.maxLocals = 1 := hml
  have hret : meth.sig.returnType = some .boolean := hret
  have N0 := Fr.nil n0
  have K0 := Keep.refl h0 []
  refine Goes.cast (ef_rm4_5 m a1) ?_
  show Goes p e below QQ (s₁.setTop (mkF m 0 #[rv a1] []))
  refine Goes.on (fun t k => XS.aloadN X0.here hx rfl (hb hby d3_0) rfl rfl k) ?_
  show Goes p e below QQ (s₁.setTop (mkF m 1 #[rv a1] [(.ref a1)]))
  obtain ⟨cq1, kq1, q1a, q1b, q1c⟩ := isOf hZ e0 E_a1
  obtain ⟨_, _, ⟨T1, L1, k1, n1⟩, -, X1, ⟨Lc1, hQ1, l1, y1, z1⟩, st1⟩ := X0.virtualBackUp hx (x := (⟨"com/example/lendgate/lendgate/policy/Criterium", "ordinal", "()I"⟩ : MethodName)) (y := (⟨"java/lang/Enum", "ordinal", "()I"⟩ : MethodName)) (owner := "java/lang/Enum") hown (mvT hZ (hw _ (List.mem_of_getElem? (i := 20) rfl))) (mvT hZ (hw _ (List.mem_of_getElem? (i := 21) rfl))) (mvT hZ (hw _ (List.mem_of_getElem? (i := 22) rfl))) (by decide) (mvT hZ (hw _ (List.mem_of_getElem? (i := 24) rfl))) (mvT hZ (hw _ (List.mem_of_getElem? (i := 23) rfl))) (backOf (W := 0) (rm3 l Z a0 hw [] a1 (5 : Int32) h0 n0 (Nat.le_trans Z0 K0.1) F_ordinal_a1) hZ (hw _ (List.mem_of_getElem? (i := 26) rfl)) (hw _ (List.mem_of_getElem? (i := 25) rfl)) (by decide) (by decide)) q1a q1c (g := (mkF m 1 #[rv a1] [(.ref a1)])) rfl (by rw [hml]; rfl) (Steps.refl _) (argsL := []) (rest := []) (lenOf pd_0 rfl) rfl (by show 2 * 0 + _ ≤ _; exact Nat.le_of_eq rfl) (hb hby d3_1) (fun _ _ => ⟨rfl, e0, (by decide : 0 + 0 ≤ _), (by decide : 0 + 0 ≤ _)⟩)
  dsimp only [Pt.U, Pt.locs, Pt.cells, Pt.slots] at X1 l1 y1 z1 st1 hQ1
  subst l1 y1 z1
  obtain ⟨rfl, M1, e1⟩ := hQ1
  have N1 := Fr.app N0 M1
  refine Goes.on (fun t k => st1.trans k) ?_
  show Goes p e below QQ (T1.setTop (mkF m 4 #[rv a1] [(.int 5)]))
  refine Goes.on (fun t k => XS.tswIn X1.here hx rfl (pc0 := 4) (pc' := 58) rfl (hb hby d3_4) rfl (by decide) (o := 54) rfl (by decide) (by decide) k) ?_
  show Goes p e below QQ (T1.setTop (mkF m 58 #[rv a1] []))
  refine Goes.on (fun t k => XS.iconst X1.here hx rfl (hb hby d3_58) k) ?_
  show Goes p e below QQ (T1.setTop (mkF m 59 #[rv a1] [(.int 1)]))
  refine Goes.on (fun t k => XS.goto X1.here hx rfl (pc0 := 59) (pc' := 63) rfl (hb hby d3_59) (by decide) (by decide) k) ?_
  show Goes p e below QQ (T1.setTop (mkF m 63 #[rv a1] [(.int 1)]))
  exact Goes.rN X1 hx (t := .boolean) hret (by simp) hlk (hb hby d3_63) hQQ ⟨rfl, N1, e1⟩ (by decide) (by decide)
theorem ef_rm4_6 (m : MethodId) (x0 : Addr) : entryFrame m #[(.ref x0)] 1 = mkF m 0 #[rv x0] [] := by first | (simp [entryFrame, mkF, argsToLocals, Value.category]; done) | rfl
set_option maxRecDepth 65536 in
set_option maxHeartbeats 40000000 in
theorem rm4_6 (l : Launch) (Z : State) (a0 : Array Value) (hw : ∀ d ∈ tables_1, d.before a0 Z = true) (ws : List Jvm.Cond) (a1 : Addr) (h0 : Heap) (n0 : Nat) (Z0 : n0 ≤ h0.size) (E_a1 : Exa Z h0 a1 "com/example/lendgate/lendgate/policy/Criterium") (F_ordinal_a1 : Fld Z h0 a1 "java/lang/Enum" "ordinal" "I" (.int 6)) :
    MetFree l (⟨"com/example/lendgate/lendgate/policy/Criterium", "isPlace", "()Z"⟩ : MethodName) (head1 (Jvm.Cond.code (⟨"com/example/lendgate/lendgate/policy/Criterium", "isPlace", "()Z"⟩ : MethodName) prog_29_method_6_code 1 (some .boolean) :: ws) ({ frames := 1, cells := 0, slots := 0, locals := 12 } : Room)) (fun a U => a = #[(.ref a1)] ∧ Z.Warmed39 U.vm ∧ U.heap = h0) (fun _ _ _ _ _ => True) (fun _ U o U' => ∃ v L, o = .returned v ∧ QP (.int (1 : Int32)) h0 n0 v U'.heap L ∧ FrameEnd U o U' L ({ frames := 1, cells := 0, slots := 0, locals := 12 } : Room).cells ({ frames := 1, cells := 0, slots := 0, locals := 12 } : Room).slots) := by
  refine own_enter pn_3 ?_
  intro p e s m below meth c s₁ QQ hQQ hx hby hml hown hnm hret hlk hZ X0 e0
  have hown : s.vm.findClass "com/example/lendgate/lendgate/policy/Criterium" = some m.cls := hown
  have hml : c.maxLocals = 1 := hml
  have hret : meth.sig.returnType = some .boolean := hret
  have N0 := Fr.nil n0
  have K0 := Keep.refl h0 []
  refine Goes.cast (ef_rm4_6 m a1) ?_
  show Goes p e below QQ (s₁.setTop (mkF m 0 #[rv a1] []))
  refine Goes.on (fun t k => XS.aloadN X0.here hx rfl (hb hby d3_0) rfl rfl k) ?_
  show Goes p e below QQ (s₁.setTop (mkF m 1 #[rv a1] [(.ref a1)]))
  obtain ⟨cq1, kq1, q1a, q1b, q1c⟩ := isOf hZ e0 E_a1
  obtain ⟨_, _, ⟨T1, L1, k1, n1⟩, -, X1, ⟨Lc1, hQ1, l1, y1, z1⟩, st1⟩ := X0.virtualBackUp hx (x := (⟨"com/example/lendgate/lendgate/policy/Criterium", "ordinal", "()I"⟩ : MethodName)) (y := (⟨"java/lang/Enum", "ordinal", "()I"⟩ : MethodName)) (owner := "java/lang/Enum") hown (mvT hZ (hw _ (List.mem_of_getElem? (i := 20) rfl))) (mvT hZ (hw _ (List.mem_of_getElem? (i := 21) rfl))) (mvT hZ (hw _ (List.mem_of_getElem? (i := 22) rfl))) (by decide) (mvT hZ (hw _ (List.mem_of_getElem? (i := 24) rfl))) (mvT hZ (hw _ (List.mem_of_getElem? (i := 23) rfl))) (backOf (W := 0) (rm3 l Z a0 hw [] a1 (6 : Int32) h0 n0 (Nat.le_trans Z0 K0.1) F_ordinal_a1) hZ (hw _ (List.mem_of_getElem? (i := 26) rfl)) (hw _ (List.mem_of_getElem? (i := 25) rfl)) (by decide) (by decide)) q1a q1c (g := (mkF m 1 #[rv a1] [(.ref a1)])) rfl (by rw [hml]; rfl) (Steps.refl _) (argsL := []) (rest := []) (lenOf pd_0 rfl) rfl (by show 2 * 0 + _ ≤ _; exact Nat.le_of_eq rfl) (hb hby d3_1) (fun _ _ => ⟨rfl, e0, (by decide : 0 + 0 ≤ _), (by decide : 0 + 0 ≤ _)⟩)
  dsimp only [Pt.U, Pt.locs, Pt.cells, Pt.slots] at X1 l1 y1 z1 st1 hQ1
  subst l1 y1 z1
  obtain ⟨rfl, M1, e1⟩ := hQ1
  have N1 := Fr.app N0 M1
  refine Goes.on (fun t k => st1.trans k) ?_
  show Goes p e below QQ (T1.setTop (mkF m 4 #[rv a1] [(.int 6)]))
  refine Goes.on (fun t k => XS.tswIn X1.here hx rfl (pc0 := 4) (pc' := 58) rfl (hb hby d3_4) rfl (by decide) (o := 54) rfl (by decide) (by decide) k) ?_
  show Goes p e below QQ (T1.setTop (mkF m 58 #[rv a1] []))
  refine Goes.on (fun t k => XS.iconst X1.here hx rfl (hb hby d3_58) k) ?_
  show Goes p e below QQ (T1.setTop (mkF m 59 #[rv a1] [(.int 1)]))
  refine Goes.on (fun t k => XS.goto X1.here hx rfl (pc0 := 59) (pc' := 63) rfl (hb hby d3_59) (by decide) (by decide) k) ?_
  show Goes p e below QQ (T1.setTop (mkF m 63 #[rv a1] [(.int 1)]))
  exact Goes.rN X1 hx (t := .boolean) hret (by simp) hlk (hb hby d3_63) hQQ ⟨rfl, N1, e1⟩ (by decide) (by decide)
theorem pn_0 : plainFor x = true := plainFor_of_name (show plainName "com/example/lendgate/lendgate/policy/CriteriumIsPlacePinLaw" = true by first | (simp [plainName, overriddenIn]; done) | decide +kernel)
theorem ef_rm0 (m : MethodId) (x0 : Int32) : entryFrame m #[(.int x0)] maxLocals = mkF m 0 #[iv x0, .unset, .unset, .unset, .unset, .unset] [] := by first | (simp [entryFrame, mkF, argsToLocals, Value.category, maxLocals]; done) | rfl
theorem pd_1 : parseMethodDescriptor "(I)Lcom/example/lendgate/lendgate/policy/Criterium;" = some ⟨[.int], some (.object "com/example/lendgate/lendgate/policy/Criterium")⟩ := by decide +kernel
theorem pd_2 : parseMethodDescriptor "()C" = some ⟨[], some .char⟩ := by decide +kernel
theorem pd_3 : parseMethodDescriptor "()Z" = some ⟨[], some .boolean⟩ := by decide +kernel
theorem own_seven (x1 : Int32) (g0 : ¬ ((x1 &&& (2147483647 : Int32)) % (7 : Int32)) = (0 : Int32)) (g1 : ¬ ((x1 &&& (2147483647 : Int32)) % (7 : Int32)) = (1 : Int32)) (g2 : ¬ ((x1 &&& (2147483647 : Int32)) % (7 : Int32)) = (2 : Int32)) (g3 : ¬ ((x1 &&& (2147483647 : Int32)) % (7 : Int32)) = (3 : Int32)) (g4 : ¬ ((x1 &&& (2147483647 : Int32)) % (7 : Int32)) = (4 : Int32)) (g5 : ¬ ((x1 &&& (2147483647 : Int32)) % (7 : Int32)) = (5 : Int32)) : ((x1 &&& (2147483647 : Int32)) % (7 : Int32)) = (6 : Int32) := by
  have q := c_mask x1 2147483647 31 (by decide) (by decide)
  have r := (c_irem (x1 &&& (2147483647 : Int32)) 7 7 (by decide)).1
  generalize ((x1 &&& (2147483647 : Int32)) % (7 : Int32)) = y at *
  have e : ∀ k : Int32, ¬ y = k → ¬ y.toInt = k.toInt := fun k h z => h (Int32.toInt_inj.mp z)
  have g0 := e _ g0; have g1 := e _ g1; have g2 := e _ g2; have g3 := e _ g3; have g4 := e _ g4; have g5 := e _ g5
  rw [(by decide : (0 : Int32).toInt = 0)] at g0; rw [(by decide : (1 : Int32).toInt = 1)] at g1; rw [(by decide : (2 : Int32).toInt = 2)] at g2; rw [(by decide : (3 : Int32).toInt = 3)] at g3; rw [(by decide : (4 : Int32).toInt = 4)] at g4; rw [(by decide : (5 : Int32).toInt = 5)] at g5
  apply Int32.toInt_inj.mp
  rw [(by decide : (6 : Int32).toInt = 6)]
  have r := r (by omega)
  omega
set_option maxRecDepth 65536 in
set_option maxHeartbeats 40000000 in
theorem rm0 (l : Launch) (Z : State) (a0 : Array Value) (hw : ∀ d ∈ tables_1, d.before a0 Z = true) (ws : List Jvm.Cond) (p1 : Int32) (x0 x1 x2 x3 x4 x5 x6 : Addr) (h0 : Heap) (n0 : Nat) (Z0 : n0 ≤ h0.size) (S_PATRON_GROUP : Sta Z Z.heap "com/example/lendgate/lendgate/policy/Criterium" "PATRON_GROUP" "Lcom/example/lendgate/lendgate/policy/Criterium;" (.ref x0)) (E_x0 : Exa Z h0 x0 "com/example/lendgate/lendgate/policy/Criterium") (F_letter_x0 : Fld Z h0 x0 "com/example/lendgate/lendgate/policy/Criterium" "letter" "C" (.int 103)) (F_ordinal_x0 : Fld Z h0 x0 "java/lang/Enum" "ordinal" "I" (.int 0)) (S_MATERIAL_TYPE : Sta Z Z.heap "com/example/lendgate/lendgate/policy/Criterium" "MATERIAL_TYPE" "Lcom/example/lendgate/lendgate/policy/Criterium;" (.ref x1)) (E_x1 : Exa Z h0 x1 "com/example/lendgate/lendgate/policy/Criterium") (F_letter_x1 : Fld Z h0 x1 "com/example/lendgate/lendgate/policy/Criterium" "letter" "C" (.int 109)) (F_ordinal_x1 : Fld Z h0 x1 "java/lang/Enum" "ordinal" "I" (.int 1)) (S_LOAN_TYPE : Sta Z Z.heap "com/example/lendgate/lendgate/policy/Criterium" "LOAN_TYPE" "Lcom/example/lendgate/lendgate/policy/Criterium;" (.ref x2)) (E_x2 : Exa Z h0 x2 "com/example/lendgate/lendgate/policy/Criterium") (F_letter_x2 : Fld Z h0 x2 "com/example/lendgate/lendgate/policy/Criterium" "letter" "C" (.int 116)) (F_ordinal_x2 : Fld Z h0 x2 "java/lang/Enum" "ordinal" "I" (.int 2)) (S_INSTITUTION : Sta Z Z.heap "com/example/lendgate/lendgate/policy/Criterium" "INSTITUTION" "Lcom/example/lendgate/lendgate/policy/Criterium;" (.ref x3)) (E_x3 : Exa Z h0 x3 "com/example/lendgate/lendgate/policy/Criterium") (F_letter_x3 : Fld Z h0 x3 "com/example/lendgate/lendgate/policy/Criterium" "letter" "C" (.int 97)) (F_ordinal_x3 : Fld Z h0 x3 "java/lang/Enum" "ordinal" "I" (.int 3)) (S_CAMPUS : Sta Z Z.heap "com/example/lendgate/lendgate/policy/Criterium" "CAMPUS" "Lcom/example/lendgate/lendgate/policy/Criterium;" (.ref x4)) (E_x4 : Exa Z h0 x4 "com/example/lendgate/lendgate/policy/Criterium") (F_letter_x4 : Fld Z h0 x4 "com/example/lendgate/lendgate/policy/Criterium" "letter" "C" (.int 98)) (F_ordinal_x4 : Fld Z h0 x4 "java/lang/Enum" "ordinal" "I" (.int 4)) (S_LIBRARY : Sta Z Z.heap "com/example/lendgate/lendgate/policy/Criterium" "LIBRARY" "Lcom/example/lendgate/lendgate/policy/Criterium;" (.ref x5)) (E_x5 : Exa Z h0 x5 "com/example/lendgate/lendgate/policy/Criterium") (F_letter_x5 : Fld Z h0 x5 "com/example/lendgate/lendgate/policy/Criterium" "letter" "C" (.int 99)) (F_ordinal_x5 : Fld Z h0 x5 "java/lang/Enum" "ordinal" "I" (.int 5)) (S_LOCATION : Sta Z Z.heap "com/example/lendgate/lendgate/policy/Criterium" "LOCATION" "Lcom/example/lendgate/lendgate/policy/Criterium;" (.ref x6)) (E_x6 : Exa Z h0 x6 "com/example/lendgate/lendgate/policy/Criterium") (F_letter_x6 : Fld Z h0 x6 "com/example/lendgate/lendgate/policy/Criterium" "letter" "C" (.int 115)) (F_ordinal_x6 : Fld Z h0 x6 "java/lang/Enum" "ordinal" "I" (.int 6)) (O_0 : Old Z n0 h0) :
    MetFree l x (head1 (Jvm.Cond.code x code maxLocals ret :: ws) room_1) (fun a U => a = #[(.int p1)] ∧ Z.Warmed39 U.vm ∧ U.heap = h0) (fun _ _ _ _ _ => True) (fun _ U o U' => ∃ v L, o = .returned v ∧ QL n0 v U'.heap L ∧ FrameEnd U o U' L 0 0) := by
  refine own_enter pn_0 ?_
  intro p e s m below meth c s₁ QQ hQQ hx hby hml hown hnm hret hlk hZ X0 e0
  have hown : s.vm.findClass "com/example/lendgate/lendgate/policy/CriteriumIsPlacePinLaw" = some m.cls := hown
  have hml : c.maxLocals = 6 := hml
  have hret : meth.sig.returnType = some .boolean := hret
  have N0 := Fr.nil n0
  have K0 := Keep.refl h0 []
  refine Goes.cast (ef_rm0 m p1) ?_
  show Goes p e below QQ (s₁.setTop (mkF m 0 #[iv p1, .unset, .unset, .unset, .unset, .unset] []))
  refine Goes.on (fun t k => XS.iloadN X0.here hx rfl (hb hby at_0) rfl k) ?_
  show Goes p e below QQ (s₁.setTop (mkF m 1 #[iv p1, .unset, .unset, .unset, .unset, .unset] [(.int p1)]))
  refine Goes.on (fun t k => X0.ldcInt hx hown (mvT hZ (hw _ (List.mem_of_getElem? (i := 0) rfl))) (g := (mkF m 1 #[iv p1, .unset, .unset, .unset, .unset, .unset] [(.int p1)])) rfl (hb hby at_1) t k) ?_
  show Goes p e below QQ (s₁.setTop (mkF m 3 #[iv p1, .unset, .unset, .unset, .unset, .unset] [(.int 2147483647), (.int p1)]))
  refine Goes.on (fun t k => XS.iand X0.here hx rfl (hb hby at_3) rfl k) ?_
  show Goes p e below QQ (s₁.setTop (mkF m 4 #[iv p1, .unset, .unset, .unset, .unset, .unset] [(.int (p1 &&& (2147483647 : Int32)))]))
  refine Goes.on (fun t k => XS.bipush X0.here hx rfl (hb hby at_4) k) ?_
  show Goes p e below QQ (s₁.setTop (mkF m 6 #[iv p1, .unset, .unset, .unset, .unset, .unset] [(.int 7), (.int (p1 &&& (2147483647 : Int32)))]))
  refine Goes.on (fun t k => iremM X0 hx rfl (hb hby at_6) rfl (by decide) k) ?_
  show Goes p e below QQ (s₁.setTop (mkF m 7 #[iv p1, .unset, .unset, .unset, .unset, .unset] [(.int ((p1 &&& (2147483647 : Int32)) % (7 : Int32)))]))
  refine Goes.on (fun t k => XS.istoreN X0.here hx rfl (hb hby at_7) rfl (l' := #[iv p1, iv ((p1 &&& (2147483647 : Int32)) % (7 : Int32)), .unset, .unset, .unset, .unset]) rfl k) ?_
  show Goes p e below QQ (s₁.setTop (mkF m 8 #[iv p1, iv ((p1 &&& (2147483647 : Int32)) % (7 : Int32)), .unset, .unset, .unset, .unset] []))
  by_cases hi0 : ((p1 &&& (2147483647 : Int32)) % (7 : Int32)) = (0 : Int32)
  · rw [hi0]
    show Goes p e below QQ (s₁.setTop (mkF m 8 #[iv p1, iv 0, .unset, .unset, .unset, .unset] []))
    refine Goes.on (fun t k => XS.iloadN X0.here hx rfl (hb hby at_8) rfl k) ?_
    show Goes p e below QQ (s₁.setTop (mkF m 9 #[iv p1, iv 0, .unset, .unset, .unset, .unset] [(.int 0)]))
    obtain ⟨_, _, ⟨T1, L1, k1, n1⟩, -, X1, ⟨Lc1, hQ1, l1, y1, z1⟩, st1⟩ := Jvm.LawKit.callS X0 hx (y := (⟨"com/example/lendgate/lendgate/policy/CriteriumIsPlacePinLaw", "pick", "(I)Lcom/example/lendgate/lendgate/policy/Criterium;"⟩ : MethodName)) hown (mvT hZ (hw _ (List.mem_of_getElem? (i := 1) rfl))) (mvT hZ (hw _ (List.mem_of_getElem? (i := 2) rfl))) (mvT hZ (hw _ (List.mem_of_getElem? (i := 3) rfl))) (mvT hZ (hw _ (List.mem_of_getElem? (i := 4) rfl))) (by decide) (backOf (W := 0) (rm1 l Z a0 hw [] (0 : Int32) x0 x1 x2 x3 x4 x5 x6 h0 n0 (Nat.le_trans Z0 K0.1) S_PATRON_GROUP S_MATERIAL_TYPE S_LOAN_TYPE S_INSTITUTION S_CAMPUS S_LIBRARY S_LOCATION O_0) hZ (hw _ (List.mem_of_getElem? (i := 4) rfl)) (hw _ (List.mem_of_getElem? (i := 3) rfl)) (by decide) (by decide)) (g := (mkF m 9 #[iv p1, iv 0, .unset, .unset, .unset, .unset] [(.int 0)])) rfl (by rw [hml]; rfl) (argsL := [(.int 0)]) (rest := []) (lenOf pd_1 rfl) rfl (by show 2 * 0 + _ ≤ _; exact Nat.le_of_eq rfl) (hb hby at_9) (fun _ _ => ⟨rfl, e0, (by decide : 0 + 0 ≤ _), (by decide : 0 + 0 ≤ _)⟩)
    dsimp only [Pt.U, Pt.locs, Pt.cells, Pt.slots] at X1 l1 y1 z1 st1 hQ1
    subst l1 y1 z1
    obtain ⟨rfl, M1, e1⟩ := hQ1
    have N1 := Fr.app N0 M1
    refine Goes.on (fun t k => st1 _ k) ?_
    show Goes p e below QQ (T1.setTop (mkF m 12 #[iv p1, iv 0, .unset, .unset, .unset, .unset] [(.ref (pickA (0 : Int32) x0 x1 x2 x3 x4 x5 x6))]))
    rw [(show (pickA (0 : Int32) x0 x1 x2 x3 x4 x5 x6) = x0 from ((if_pos (by decide)).trans rfl))]
    show Goes p e below QQ (T1.setTop (mkF m 12 #[iv p1, iv 0, .unset, .unset, .unset, .unset] [(.ref x0)]))
    refine Goes.on (fun t k => XS.astoreN X1.here hx rfl (hb hby at_12) rfl rfl (l' := #[iv p1, iv 0, rv x0, .unset, .unset, .unset]) rfl k) ?_
    show Goes p e below QQ (T1.setTop (mkF m 13 #[iv p1, iv 0, rv x0, .unset, .unset, .unset] []))
    refine Goes.on (fun t k => XS.aloadN X1.here hx rfl (hb hby at_13) rfl rfl k) ?_
    show Goes p e below QQ (T1.setTop (mkF m 14 #[iv p1, iv 0, rv x0, .unset, .unset, .unset] [(.ref x0)]))
    obtain ⟨cq2, kq2, q2a, q2b, q2c⟩ := isOf hZ e1 E_x0
    obtain ⟨_, _, ⟨T2, L2, k2, n2⟩, -, X2, ⟨Lc2, hQ2, l2, y2, z2⟩, st2⟩ := X1.virtualBack hx (y := (⟨"com/example/lendgate/lendgate/policy/Criterium", "letter", "()C"⟩ : MethodName)) (z := (⟨"com/example/lendgate/lendgate/policy/Criterium", "letter", "()C"⟩ : MethodName)) hown (mvT hZ (hw _ (List.mem_of_getElem? (i := 8) rfl))) (mvT hZ (hw _ (List.mem_of_getElem? (i := 9) rfl))) (notFace_of_selects (args := #[]) (mvT hZ (hw _ (List.mem_of_getElem? (i := 11) rfl)))) (mvT hZ (hw _ (List.mem_of_getElem? (i := 11) rfl))) (mvT hZ (hw _ (List.mem_of_getElem? (i := 10) rfl))) (by decide) (backOf (W := 0) (rm2 l Z a0 hw [] x0 (103 : Int32) h0 n0 (Nat.le_trans Z0 K0.1) F_letter_x0 rfl) hZ (hw _ (List.mem_of_getElem? (i := 12) rfl)) (hw _ (List.mem_of_getElem? (i := 6) rfl)) (by decide) (by decide)) q2a q2c (g := (mkF m 14 #[iv p1, iv 0, rv x0, .unset, .unset, .unset] [(.ref x0)])) rfl (by rw [hml]; rfl) (Steps.refl _) (argsL := []) (rest := []) (lenOf pd_2 rfl) rfl (by show 2 * 0 + _ ≤ _; exact Nat.le_of_eq rfl) (hb hby at_14) (fun _ _ => ⟨rfl, e1, (by decide : 0 + 0 ≤ _), (by decide : 0 + 0 ≤ _)⟩)
    dsimp only [Pt.U, Pt.locs, Pt.cells, Pt.slots] at X2 l2 y2 z2 st2 hQ2
    subst l2 y2 z2
    obtain ⟨rfl, M2, e2⟩ := hQ2
    have N2 := Fr.app N1 M2
    refine Goes.on (fun t k => st2.trans k) ?_
    show Goes p e below QQ (T2.setTop (mkF m 17 #[iv p1, iv 0, rv x0, .unset, .unset, .unset] [(.int 103)]))
    refine Goes.on (fun t k => XS.istoreN X2.here hx rfl (hb hby at_17) rfl (l' := #[iv p1, iv 0, rv x0, iv 103, .unset, .unset]) rfl k) ?_
    show Goes p e below QQ (T2.setTop (mkF m 18 #[iv p1, iv 0, rv x0, iv 103, .unset, .unset] []))
    refine Goes.on (fun t k => XS.iloadN X2.here hx rfl (hb hby at_18) rfl k) ?_
    show Goes p e below QQ (T2.setTop (mkF m 19 #[iv p1, iv 0, rv x0, iv 103, .unset, .unset] [(.int 103)]))
    refine Goes.on (fun t k => XS.bipush X2.here hx rfl (hb hby at_19) k) ?_
    show Goes p e below QQ (T2.setTop (mkF m 21 #[iv p1, iv 0, rv x0, iv 103, .unset, .unset] [(.int 97), (.int 103)]))
    refine Goes.on (fun t k => XS.icmpNo X2.here hx rfl (hb hby at_21) rfl (feq (by decide)).1 k) ?_
    show Goes p e below QQ (T2.setTop (mkF m 24 #[iv p1, iv 0, rv x0, iv 103, .unset, .unset] []))
    refine Goes.on (fun t k => XS.iloadN X2.here hx rfl (hb hby at_24) rfl k) ?_
    show Goes p e below QQ (T2.setTop (mkF m 25 #[iv p1, iv 0, rv x0, iv 103, .unset, .unset] [(.int 103)]))
    refine Goes.on (fun t k => XS.bipush X2.here hx rfl (hb hby at_25) k) ?_
    show Goes p e below QQ (T2.setTop (mkF m 27 #[iv p1, iv 0, rv x0, iv 103, .unset, .unset] [(.int 98), (.int 103)]))
    refine Goes.on (fun t k => XS.icmpNo X2.here hx rfl (hb hby at_27) rfl (feq (by decide)).1 k) ?_
    show Goes p e below QQ (T2.setTop (mkF m 30 #[iv p1, iv 0, rv x0, iv 103, .unset, .unset] []))
    refine Goes.on (fun t k => XS.iloadN X2.here hx rfl (hb hby at_30) rfl k) ?_
    show Goes p e below QQ (T2.setTop (mkF m 31 #[iv p1, iv 0, rv x0, iv 103, .unset, .unset] [(.int 103)]))
    refine Goes.on (fun t k => XS.bipush X2.here hx rfl (hb hby at_31) k) ?_
    show Goes p e below QQ (T2.setTop (mkF m 33 #[iv p1, iv 0, rv x0, iv 103, .unset, .unset] [(.int 99), (.int 103)]))
    refine Goes.on (fun t k => XS.icmpNo X2.here hx rfl (hb hby at_33) rfl (feq (by decide)).1 k) ?_
    show Goes p e below QQ (T2.setTop (mkF m 36 #[iv p1, iv 0, rv x0, iv 103, .unset, .unset] []))
    refine Goes.on (fun t k => XS.iloadN X2.here hx rfl (hb hby at_36) rfl k) ?_
    show Goes p e below QQ (T2.setTop (mkF m 37 #[iv p1, iv 0, rv x0, iv 103, .unset, .unset] [(.int 103)]))
    refine Goes.on (fun t k => XS.bipush X2.here hx rfl (hb hby at_37) k) ?_
    show Goes p e below QQ (T2.setTop (mkF m 39 #[iv p1, iv 0, rv x0, iv 103, .unset, .unset] [(.int 115), (.int 103)]))
    refine Goes.on (fun t k => XS.icmpYes X2.here hx rfl (pc0 := 39) (pc' := 46) rfl (hb hby at_39) rfl (feq (by decide)).2 (by decide) (by decide) k) ?_
    show Goes p e below QQ (T2.setTop (mkF m 46 #[iv p1, iv 0, rv x0, iv 103, .unset, .unset] []))
    refine Goes.on (fun t k => XS.iconst X2.here hx rfl (hb hby at_46) k) ?_
    show Goes p e below QQ (T2.setTop (mkF m 47 #[iv p1, iv 0, rv x0, iv 103, .unset, .unset] [(.int 0)]))
    refine Goes.on (fun t k => XS.istore X2.here hx rfl (hb hby at_47) rfl (l' := #[iv p1, iv 0, rv x0, iv 103, iv 0, .unset]) rfl k) ?_
    show Goes p e below QQ (T2.setTop (mkF m 49 #[iv p1, iv 0, rv x0, iv 103, iv 0, .unset] []))
    refine Goes.on (fun t k => XS.iloadN X2.here hx rfl (hb hby at_49) rfl k) ?_
    show Goes p e below QQ (T2.setTop (mkF m 50 #[iv p1, iv 0, rv x0, iv 103, iv 0, .unset] [(.int 0)]))
    refine Goes.on (fun t k => XS.iconst X2.here hx rfl (hb hby at_50) k) ?_
    show Goes p e below QQ (T2.setTop (mkF m 51 #[iv p1, iv 0, rv x0, iv 103, iv 0, .unset] [(.int 3), (.int 0)]))
    refine Goes.on (fun t k => XS.icmpYes X2.here hx rfl (pc0 := 51) (pc' := 58) rfl (hb hby at_51) rfl (tlt (by decide)).1 (by decide) (by decide) k) ?_
    show Goes p e below QQ (T2.setTop (mkF m 58 #[iv p1, iv 0, rv x0, iv 103, iv 0, .unset] []))
    refine Goes.on (fun t k => XS.iconst X2.here hx rfl (hb hby at_58) k) ?_
    show Goes p e below QQ (T2.setTop (mkF m 59 #[iv p1, iv 0, rv x0, iv 103, iv 0, .unset] [(.int 0)]))
    refine Goes.on (fun t k => XS.istore X2.here hx rfl (hb hby at_59) rfl (l' := #[iv p1, iv 0, rv x0, iv 103, iv 0, iv 0]) rfl k) ?_
    show Goes p e below QQ (T2.setTop (mkF m 61 #[iv p1, iv 0, rv x0, iv 103, iv 0, iv 0] []))
    refine Goes.on (fun t k => XS.aloadN X2.here hx rfl (hb hby at_61) rfl rfl k) ?_
    show Goes p e below QQ (T2.setTop (mkF m 62 #[iv p1, iv 0, rv x0, iv 103, iv 0, iv 0] [(.ref x0)]))
    obtain ⟨cq3, kq3, q3a, q3b, q3c⟩ := isOf hZ e2 E_x0
    obtain ⟨_, _, ⟨T3, L3, k3, n3⟩, -, X3, ⟨Lc3, hQ3, l3, y3, z3⟩, st3⟩ := X2.virtualBack hx (y := (⟨"com/example/lendgate/lendgate/policy/Criterium", "isPlace", "()Z"⟩ : MethodName)) (z := (⟨"com/example/lendgate/lendgate/policy/Criterium", "isPlace", "()Z"⟩ : MethodName)) hown (mvT hZ (hw _ (List.mem_of_getElem? (i := 15) rfl))) (mvT hZ (hw _ (List.mem_of_getElem? (i := 16) rfl))) (notFace_of_selects (args := #[]) (mvT hZ (hw _ (List.mem_of_getElem? (i := 18) rfl)))) (mvT hZ (hw _ (List.mem_of_getElem? (i := 18) rfl))) (mvT hZ (hw _ (List.mem_of_getElem? (i := 17) rfl))) (by decide) (backOf (W := 0) (rm4_0 l Z a0 hw [] x0 h0 n0 (Nat.le_trans Z0 K0.1) E_x0 F_ordinal_x0) hZ (hw _ (List.mem_of_getElem? (i := 19) rfl)) (hw _ (List.mem_of_getElem? (i := 6) rfl)) (by decide) (by decide)) q3a q3c (g := (mkF m 62 #[iv p1, iv 0, rv x0, iv 103, iv 0, iv 0] [(.ref x0)])) rfl (by rw [hml]; rfl) (Steps.refl _) (argsL := []) (rest := []) (lenOf pd_3 rfl) rfl (by show 2 * 0 + _ ≤ _; exact Nat.le_of_eq rfl) (hb hby at_62) (fun _ _ => ⟨rfl, e2, (by decide : 0 + 0 ≤ _), (by decide : 0 + 0 ≤ _)⟩)
    dsimp only [Pt.U, Pt.locs, Pt.cells, Pt.slots] at X3 l3 y3 z3 st3 hQ3
    subst l3 y3 z3
    obtain ⟨rfl, M3, e3⟩ := hQ3
    have N3 := Fr.app N2 M3
    refine Goes.on (fun t k => st3.trans k) ?_
    show Goes p e below QQ (T3.setTop (mkF m 65 #[iv p1, iv 0, rv x0, iv 103, iv 0, iv 0] [(.int 0)]))
    refine Goes.on (fun t k => XS.iload X3.here hx rfl (hb hby at_65) rfl k) ?_
    show Goes p e below QQ (T3.setTop (mkF m 67 #[iv p1, iv 0, rv x0, iv 103, iv 0, iv 0] [(.int 0), (.int 0)]))
    refine Goes.on (fun t k => XS.icmpNo X3.here hx rfl (hb hby at_67) rfl (teq (by decide)).2 k) ?_
    show Goes p e below QQ (T3.setTop (mkF m 70 #[iv p1, iv 0, rv x0, iv 103, iv 0, iv 0] []))
    refine Goes.on (fun t k => XS.iload X3.here hx rfl (hb hby at_70) rfl k) ?_
    show Goes p e below QQ (T3.setTop (mkF m 72 #[iv p1, iv 0, rv x0, iv 103, iv 0, iv 0] [(.int 0)]))
    refine Goes.on (fun t k => XS.iload X3.here hx rfl (hb hby at_72) rfl k) ?_
    show Goes p e below QQ (T3.setTop (mkF m 74 #[iv p1, iv 0, rv x0, iv 103, iv 0, iv 0] [(.int 0), (.int 0)]))
    refine Goes.on (fun t k => XS.icmpNo X3.here hx rfl (hb hby at_74) rfl (teq (by decide)).2 k) ?_
    show Goes p e below QQ (T3.setTop (mkF m 77 #[iv p1, iv 0, rv x0, iv 103, iv 0, iv 0] []))
    refine Goes.on (fun t k => XS.iconst X3.here hx rfl (hb hby at_77) k) ?_
    show Goes p e below QQ (T3.setTop (mkF m 78 #[iv p1, iv 0, rv x0, iv 103, iv 0, iv 0] [(.int 1)]))
    refine Goes.on (fun t k => XS.goto X3.here hx rfl (pc0 := 78) (pc' := 82) rfl (hb hby at_78) (by decide) (by decide) k) ?_
    show Goes p e below QQ (T3.setTop (mkF m 82 #[iv p1, iv 0, rv x0, iv 103, iv 0, iv 0] [(.int 1)]))
    exact Goes.rN X3 hx (t := .boolean) hret (by simp) hlk (hb hby at_82) hQQ ⟨rfl, N3⟩ (by decide) (by decide)
  · by_cases hi1 : ((p1 &&& (2147483647 : Int32)) % (7 : Int32)) = (1 : Int32)
    · rw [hi1]
      show Goes p e below QQ (s₁.setTop (mkF m 8 #[iv p1, iv 1, .unset, .unset, .unset, .unset] []))
      refine Goes.on (fun t k => XS.iloadN X0.here hx rfl (hb hby at_8) rfl k) ?_
      show Goes p e below QQ (s₁.setTop (mkF m 9 #[iv p1, iv 1, .unset, .unset, .unset, .unset] [(.int 1)]))
      obtain ⟨_, _, ⟨T4, L4, k4, n4⟩, -, X4, ⟨Lc4, hQ4, l4, y4, z4⟩, st4⟩ := Jvm.LawKit.callS X0 hx (y := (⟨"com/example/lendgate/lendgate/policy/CriteriumIsPlacePinLaw", "pick", "(I)Lcom/example/lendgate/lendgate/policy/Criterium;"⟩ : MethodName)) hown (mvT hZ (hw _ (List.mem_of_getElem? (i := 1) rfl))) (mvT hZ (hw _ (List.mem_of_getElem? (i := 2) rfl))) (mvT hZ (hw _ (List.mem_of_getElem? (i := 3) rfl))) (mvT hZ (hw _ (List.mem_of_getElem? (i := 4) rfl))) (by decide) (backOf (W := 0) (rm1 l Z a0 hw [] (1 : Int32) x0 x1 x2 x3 x4 x5 x6 h0 n0 (Nat.le_trans Z0 K0.1) S_PATRON_GROUP S_MATERIAL_TYPE S_LOAN_TYPE S_INSTITUTION S_CAMPUS S_LIBRARY S_LOCATION O_0) hZ (hw _ (List.mem_of_getElem? (i := 4) rfl)) (hw _ (List.mem_of_getElem? (i := 3) rfl)) (by decide) (by decide)) (g := (mkF m 9 #[iv p1, iv 1, .unset, .unset, .unset, .unset] [(.int 1)])) rfl (by rw [hml]; rfl) (argsL := [(.int 1)]) (rest := []) (lenOf pd_1 rfl) rfl (by show 2 * 0 + _ ≤ _; exact Nat.le_of_eq rfl) (hb hby at_9) (fun _ _ => ⟨rfl, e0, (by decide : 0 + 0 ≤ _), (by decide : 0 + 0 ≤ _)⟩)
      dsimp only [Pt.U, Pt.locs, Pt.cells, Pt.slots] at X4 l4 y4 z4 st4 hQ4
      subst l4 y4 z4
      obtain ⟨rfl, M4, e4⟩ := hQ4
      have N4 := Fr.app N0 M4
      refine Goes.on (fun t k => st4 _ k) ?_
      show Goes p e below QQ (T4.setTop (mkF m 12 #[iv p1, iv 1, .unset, .unset, .unset, .unset] [(.ref (pickA (1 : Int32) x0 x1 x2 x3 x4 x5 x6))]))
      rw [(show (pickA (1 : Int32) x0 x1 x2 x3 x4 x5 x6) = x1 from ((if_neg (by decide)).trans ((if_pos (by decide)).trans rfl)))]
      show Goes p e below QQ (T4.setTop (mkF m 12 #[iv p1, iv 1, .unset, .unset, .unset, .unset] [(.ref x1)]))
      refine Goes.on (fun t k => XS.astoreN X4.here hx rfl (hb hby at_12) rfl rfl (l' := #[iv p1, iv 1, rv x1, .unset, .unset, .unset]) rfl k) ?_
      show Goes p e below QQ (T4.setTop (mkF m 13 #[iv p1, iv 1, rv x1, .unset, .unset, .unset] []))
      refine Goes.on (fun t k => XS.aloadN X4.here hx rfl (hb hby at_13) rfl rfl k) ?_
      show Goes p e below QQ (T4.setTop (mkF m 14 #[iv p1, iv 1, rv x1, .unset, .unset, .unset] [(.ref x1)]))
      obtain ⟨cq5, kq5, q5a, q5b, q5c⟩ := isOf hZ e4 E_x1
      obtain ⟨_, _, ⟨T5, L5, k5, n5⟩, -, X5, ⟨Lc5, hQ5, l5, y5, z5⟩, st5⟩ := X4.virtualBack hx (y := (⟨"com/example/lendgate/lendgate/policy/Criterium", "letter", "()C"⟩ : MethodName)) (z := (⟨"com/example/lendgate/lendgate/policy/Criterium", "letter", "()C"⟩ : MethodName)) hown (mvT hZ (hw _ (List.mem_of_getElem? (i := 8) rfl))) (mvT hZ (hw _ (List.mem_of_getElem? (i := 9) rfl))) (notFace_of_selects (args := #[]) (mvT hZ (hw _ (List.mem_of_getElem? (i := 11) rfl)))) (mvT hZ (hw _ (List.mem_of_getElem? (i := 11) rfl))) (mvT hZ (hw _ (List.mem_of_getElem? (i := 10) rfl))) (by decide) (backOf (W := 0) (rm2 l Z a0 hw [] x1 (109 : Int32) h0 n0 (Nat.le_trans Z0 K0.1) F_letter_x1 rfl) hZ (hw _ (List.mem_of_getElem? (i := 12) rfl)) (hw _ (List.mem_of_getElem? (i := 6) rfl)) (by decide) (by decide)) q5a q5c (g := (mkF m 14 #[iv p1, iv 1, rv x1, .unset, .unset, .unset] [(.ref x1)])) rfl (by rw [hml]; rfl) (Steps.refl _) (argsL := []) (rest := []) (lenOf pd_2 rfl) rfl (by show 2 * 0 + _ ≤ _; exact Nat.le_of_eq rfl) (hb hby at_14) (fun _ _ => ⟨rfl, e4, (by decide : 0 + 0 ≤ _), (by decide : 0 + 0 ≤ _)⟩)
      dsimp only [Pt.U, Pt.locs, Pt.cells, Pt.slots] at X5 l5 y5 z5 st5 hQ5
      subst l5 y5 z5
      obtain ⟨rfl, M5, e5⟩ := hQ5
      have N5 := Fr.app N4 M5
      refine Goes.on (fun t k => st5.trans k) ?_
      show Goes p e below QQ (T5.setTop (mkF m 17 #[iv p1, iv 1, rv x1, .unset, .unset, .unset] [(.int 109)]))
      refine Goes.on (fun t k => XS.istoreN X5.here hx rfl (hb hby at_17) rfl (l' := #[iv p1, iv 1, rv x1, iv 109, .unset, .unset]) rfl k) ?_
      show Goes p e below QQ (T5.setTop (mkF m 18 #[iv p1, iv 1, rv x1, iv 109, .unset, .unset] []))
      refine Goes.on (fun t k => XS.iloadN X5.here hx rfl (hb hby at_18) rfl k) ?_
      show Goes p e below QQ (T5.setTop (mkF m 19 #[iv p1, iv 1, rv x1, iv 109, .unset, .unset] [(.int 109)]))
      refine Goes.on (fun t k => XS.bipush X5.here hx rfl (hb hby at_19) k) ?_
      show Goes p e below QQ (T5.setTop (mkF m 21 #[iv p1, iv 1, rv x1, iv 109, .unset, .unset] [(.int 97), (.int 109)]))
      refine Goes.on (fun t k => XS.icmpNo X5.here hx rfl (hb hby at_21) rfl (feq (by decide)).1 k) ?_
      show Goes p e below QQ (T5.setTop (mkF m 24 #[iv p1, iv 1, rv x1, iv 109, .unset, .unset] []))
      refine Goes.on (fun t k => XS.iloadN X5.here hx rfl (hb hby at_24) rfl k) ?_
      show Goes p e below QQ (T5.setTop (mkF m 25 #[iv p1, iv 1, rv x1, iv 109, .unset, .unset] [(.int 109)]))
      refine Goes.on (fun t k => XS.bipush X5.here hx rfl (hb hby at_25) k) ?_
      show Goes p e below QQ (T5.setTop (mkF m 27 #[iv p1, iv 1, rv x1, iv 109, .unset, .unset] [(.int 98), (.int 109)]))
      refine Goes.on (fun t k => XS.icmpNo X5.here hx rfl (hb hby at_27) rfl (feq (by decide)).1 k) ?_
      show Goes p e below QQ (T5.setTop (mkF m 30 #[iv p1, iv 1, rv x1, iv 109, .unset, .unset] []))
      refine Goes.on (fun t k => XS.iloadN X5.here hx rfl (hb hby at_30) rfl k) ?_
      show Goes p e below QQ (T5.setTop (mkF m 31 #[iv p1, iv 1, rv x1, iv 109, .unset, .unset] [(.int 109)]))
      refine Goes.on (fun t k => XS.bipush X5.here hx rfl (hb hby at_31) k) ?_
      show Goes p e below QQ (T5.setTop (mkF m 33 #[iv p1, iv 1, rv x1, iv 109, .unset, .unset] [(.int 99), (.int 109)]))
      refine Goes.on (fun t k => XS.icmpNo X5.here hx rfl (hb hby at_33) rfl (feq (by decide)).1 k) ?_
      show Goes p e below QQ (T5.setTop (mkF m 36 #[iv p1, iv 1, rv x1, iv 109, .unset, .unset] []))
      refine Goes.on (fun t k => XS.iloadN X5.here hx rfl (hb hby at_36) rfl k) ?_
      show Goes p e below QQ (T5.setTop (mkF m 37 #[iv p1, iv 1, rv x1, iv 109, .unset, .unset] [(.int 109)]))
      refine Goes.on (fun t k => XS.bipush X5.here hx rfl (hb hby at_37) k) ?_
      show Goes p e below QQ (T5.setTop (mkF m 39 #[iv p1, iv 1, rv x1, iv 109, .unset, .unset] [(.int 115), (.int 109)]))
      refine Goes.on (fun t k => XS.icmpYes X5.here hx rfl (pc0 := 39) (pc' := 46) rfl (hb hby at_39) rfl (feq (by decide)).2 (by decide) (by decide) k) ?_
      show Goes p e below QQ (T5.setTop (mkF m 46 #[iv p1, iv 1, rv x1, iv 109, .unset, .unset] []))
      refine Goes.on (fun t k => XS.iconst X5.here hx rfl (hb hby at_46) k) ?_
      show Goes p e below QQ (T5.setTop (mkF m 47 #[iv p1, iv 1, rv x1, iv 109, .unset, .unset] [(.int 0)]))
      refine Goes.on (fun t k => XS.istore X5.here hx rfl (hb hby at_47) rfl (l' := #[iv p1, iv 1, rv x1, iv 109, iv 0, .unset]) rfl k) ?_
      show Goes p e below QQ (T5.setTop (mkF m 49 #[iv p1, iv 1, rv x1, iv 109, iv 0, .unset] []))
      refine Goes.on (fun t k => XS.iloadN X5.here hx rfl (hb hby at_49) rfl k) ?_
      show Goes p e below QQ (T5.setTop (mkF m 50 #[iv p1, iv 1, rv x1, iv 109, iv 0, .unset] [(.int 1)]))
      refine Goes.on (fun t k => XS.iconst X5.here hx rfl (hb hby at_50) k) ?_
      show Goes p e below QQ (T5.setTop (mkF m 51 #[iv p1, iv 1, rv x1, iv 109, iv 0, .unset] [(.int 3), (.int 1)]))
      refine Goes.on (fun t k => XS.icmpYes X5.here hx rfl (pc0 := 51) (pc' := 58) rfl (hb hby at_51) rfl (tlt (by decide)).1 (by decide) (by decide) k) ?_
      show Goes p e below QQ (T5.setTop (mkF m 58 #[iv p1, iv 1, rv x1, iv 109, iv 0, .unset] []))
      refine Goes.on (fun t k => XS.iconst X5.here hx rfl (hb hby at_58) k) ?_
      show Goes p e below QQ (T5.setTop (mkF m 59 #[iv p1, iv 1, rv x1, iv 109, iv 0, .unset] [(.int 0)]))
      refine Goes.on (fun t k => XS.istore X5.here hx rfl (hb hby at_59) rfl (l' := #[iv p1, iv 1, rv x1, iv 109, iv 0, iv 0]) rfl k) ?_
      show Goes p e below QQ (T5.setTop (mkF m 61 #[iv p1, iv 1, rv x1, iv 109, iv 0, iv 0] []))
      refine Goes.on (fun t k => XS.aloadN X5.here hx rfl (hb hby at_61) rfl rfl k) ?_
      show Goes p e below QQ (T5.setTop (mkF m 62 #[iv p1, iv 1, rv x1, iv 109, iv 0, iv 0] [(.ref x1)]))
      obtain ⟨cq6, kq6, q6a, q6b, q6c⟩ := isOf hZ e5 E_x1
      obtain ⟨_, _, ⟨T6, L6, k6, n6⟩, -, X6, ⟨Lc6, hQ6, l6, y6, z6⟩, st6⟩ := X5.virtualBack hx (y := (⟨"com/example/lendgate/lendgate/policy/Criterium", "isPlace", "()Z"⟩ : MethodName)) (z := (⟨"com/example/lendgate/lendgate/policy/Criterium", "isPlace", "()Z"⟩ : MethodName)) hown (mvT hZ (hw _ (List.mem_of_getElem? (i := 15) rfl))) (mvT hZ (hw _ (List.mem_of_getElem? (i := 16) rfl))) (notFace_of_selects (args := #[]) (mvT hZ (hw _ (List.mem_of_getElem? (i := 18) rfl)))) (mvT hZ (hw _ (List.mem_of_getElem? (i := 18) rfl))) (mvT hZ (hw _ (List.mem_of_getElem? (i := 17) rfl))) (by decide) (backOf (W := 0) (rm4_1 l Z a0 hw [] x1 h0 n0 (Nat.le_trans Z0 K0.1) E_x1 F_ordinal_x1) hZ (hw _ (List.mem_of_getElem? (i := 19) rfl)) (hw _ (List.mem_of_getElem? (i := 6) rfl)) (by decide) (by decide)) q6a q6c (g := (mkF m 62 #[iv p1, iv 1, rv x1, iv 109, iv 0, iv 0] [(.ref x1)])) rfl (by rw [hml]; rfl) (Steps.refl _) (argsL := []) (rest := []) (lenOf pd_3 rfl) rfl (by show 2 * 0 + _ ≤ _; exact Nat.le_of_eq rfl) (hb hby at_62) (fun _ _ => ⟨rfl, e5, (by decide : 0 + 0 ≤ _), (by decide : 0 + 0 ≤ _)⟩)
      dsimp only [Pt.U, Pt.locs, Pt.cells, Pt.slots] at X6 l6 y6 z6 st6 hQ6
      subst l6 y6 z6
      obtain ⟨rfl, M6, e6⟩ := hQ6
      have N6 := Fr.app N5 M6
      refine Goes.on (fun t k => st6.trans k) ?_
      show Goes p e below QQ (T6.setTop (mkF m 65 #[iv p1, iv 1, rv x1, iv 109, iv 0, iv 0] [(.int 0)]))
      refine Goes.on (fun t k => XS.iload X6.here hx rfl (hb hby at_65) rfl k) ?_
      show Goes p e below QQ (T6.setTop (mkF m 67 #[iv p1, iv 1, rv x1, iv 109, iv 0, iv 0] [(.int 0), (.int 0)]))
      refine Goes.on (fun t k => XS.icmpNo X6.here hx rfl (hb hby at_67) rfl (teq (by decide)).2 k) ?_
      show Goes p e below QQ (T6.setTop (mkF m 70 #[iv p1, iv 1, rv x1, iv 109, iv 0, iv 0] []))
      refine Goes.on (fun t k => XS.iload X6.here hx rfl (hb hby at_70) rfl k) ?_
      show Goes p e below QQ (T6.setTop (mkF m 72 #[iv p1, iv 1, rv x1, iv 109, iv 0, iv 0] [(.int 0)]))
      refine Goes.on (fun t k => XS.iload X6.here hx rfl (hb hby at_72) rfl k) ?_
      show Goes p e below QQ (T6.setTop (mkF m 74 #[iv p1, iv 1, rv x1, iv 109, iv 0, iv 0] [(.int 0), (.int 0)]))
      refine Goes.on (fun t k => XS.icmpNo X6.here hx rfl (hb hby at_74) rfl (teq (by decide)).2 k) ?_
      show Goes p e below QQ (T6.setTop (mkF m 77 #[iv p1, iv 1, rv x1, iv 109, iv 0, iv 0] []))
      refine Goes.on (fun t k => XS.iconst X6.here hx rfl (hb hby at_77) k) ?_
      show Goes p e below QQ (T6.setTop (mkF m 78 #[iv p1, iv 1, rv x1, iv 109, iv 0, iv 0] [(.int 1)]))
      refine Goes.on (fun t k => XS.goto X6.here hx rfl (pc0 := 78) (pc' := 82) rfl (hb hby at_78) (by decide) (by decide) k) ?_
      show Goes p e below QQ (T6.setTop (mkF m 82 #[iv p1, iv 1, rv x1, iv 109, iv 0, iv 0] [(.int 1)]))
      exact Goes.rN X6 hx (t := .boolean) hret (by simp) hlk (hb hby at_82) hQQ ⟨rfl, N6⟩ (by decide) (by decide)
    · by_cases hi2 : ((p1 &&& (2147483647 : Int32)) % (7 : Int32)) = (2 : Int32)
      · rw [hi2]
        show Goes p e below QQ (s₁.setTop (mkF m 8 #[iv p1, iv 2, .unset, .unset, .unset, .unset] []))
        refine Goes.on (fun t k => XS.iloadN X0.here hx rfl (hb hby at_8) rfl k) ?_
        show Goes p e below QQ (s₁.setTop (mkF m 9 #[iv p1, iv 2, .unset, .unset, .unset, .unset] [(.int 2)]))
        obtain ⟨_, _, ⟨T7, L7, k7, n7⟩, -, X7, ⟨Lc7, hQ7, l7, y7, z7⟩, st7⟩ := Jvm.LawKit.callS X0 hx (y := (⟨"com/example/lendgate/lendgate/policy/CriteriumIsPlacePinLaw", "pick", "(I)Lcom/example/lendgate/lendgate/policy/Criterium;"⟩ : MethodName)) hown (mvT hZ (hw _ (List.mem_of_getElem? (i := 1) rfl))) (mvT hZ (hw _ (List.mem_of_getElem? (i := 2) rfl))) (mvT hZ (hw _ (List.mem_of_getElem? (i := 3) rfl))) (mvT hZ (hw _ (List.mem_of_getElem? (i := 4) rfl))) (by decide) (backOf (W := 0) (rm1 l Z a0 hw [] (2 : Int32) x0 x1 x2 x3 x4 x5 x6 h0 n0 (Nat.le_trans Z0 K0.1) S_PATRON_GROUP S_MATERIAL_TYPE S_LOAN_TYPE S_INSTITUTION S_CAMPUS S_LIBRARY S_LOCATION O_0) hZ (hw _ (List.mem_of_getElem? (i := 4) rfl)) (hw _ (List.mem_of_getElem? (i := 3) rfl)) (by decide) (by decide)) (g := (mkF m 9 #[iv p1, iv 2, .unset, .unset, .unset, .unset] [(.int 2)])) rfl (by rw [hml]; rfl) (argsL := [(.int 2)]) (rest := []) (lenOf pd_1 rfl) rfl (by show 2 * 0 + _ ≤ _; exact Nat.le_of_eq rfl) (hb hby at_9) (fun _ _ => ⟨rfl, e0, (by decide : 0 + 0 ≤ _), (by decide : 0 + 0 ≤ _)⟩)
        dsimp only [Pt.U, Pt.locs, Pt.cells, Pt.slots] at X7 l7 y7 z7 st7 hQ7
        subst l7 y7 z7
        obtain ⟨rfl, M7, e7⟩ := hQ7
        have N7 := Fr.app N0 M7
        refine Goes.on (fun t k => st7 _ k) ?_
        show Goes p e below QQ (T7.setTop (mkF m 12 #[iv p1, iv 2, .unset, .unset, .unset, .unset] [(.ref (pickA (2 : Int32) x0 x1 x2 x3 x4 x5 x6))]))
        rw [(show (pickA (2 : Int32) x0 x1 x2 x3 x4 x5 x6) = x2 from ((if_neg (by decide)).trans ((if_neg (by decide)).trans ((if_pos (by decide)).trans rfl))))]
        show Goes p e below QQ (T7.setTop (mkF m 12 #[iv p1, iv 2, .unset, .unset, .unset, .unset] [(.ref x2)]))
        refine Goes.on (fun t k => XS.astoreN X7.here hx rfl (hb hby at_12) rfl rfl (l' := #[iv p1, iv 2, rv x2, .unset, .unset, .unset]) rfl k) ?_
        show Goes p e below QQ (T7.setTop (mkF m 13 #[iv p1, iv 2, rv x2, .unset, .unset, .unset] []))
        refine Goes.on (fun t k => XS.aloadN X7.here hx rfl (hb hby at_13) rfl rfl k) ?_
        show Goes p e below QQ (T7.setTop (mkF m 14 #[iv p1, iv 2, rv x2, .unset, .unset, .unset] [(.ref x2)]))
        obtain ⟨cq8, kq8, q8a, q8b, q8c⟩ := isOf hZ e7 E_x2
        obtain ⟨_, _, ⟨T8, L8, k8, n8⟩, -, X8, ⟨Lc8, hQ8, l8, y8, z8⟩, st8⟩ := X7.virtualBack hx (y := (⟨"com/example/lendgate/lendgate/policy/Criterium", "letter", "()C"⟩ : MethodName)) (z := (⟨"com/example/lendgate/lendgate/policy/Criterium", "letter", "()C"⟩ : MethodName)) hown (mvT hZ (hw _ (List.mem_of_getElem? (i := 8) rfl))) (mvT hZ (hw _ (List.mem_of_getElem? (i := 9) rfl))) (notFace_of_selects (args := #[]) (mvT hZ (hw _ (List.mem_of_getElem? (i := 11) rfl)))) (mvT hZ (hw _ (List.mem_of_getElem? (i := 11) rfl))) (mvT hZ (hw _ (List.mem_of_getElem? (i := 10) rfl))) (by decide) (backOf (W := 0) (rm2 l Z a0 hw [] x2 (116 : Int32) h0 n0 (Nat.le_trans Z0 K0.1) F_letter_x2 rfl) hZ (hw _ (List.mem_of_getElem? (i := 12) rfl)) (hw _ (List.mem_of_getElem? (i := 6) rfl)) (by decide) (by decide)) q8a q8c (g := (mkF m 14 #[iv p1, iv 2, rv x2, .unset, .unset, .unset] [(.ref x2)])) rfl (by rw [hml]; rfl) (Steps.refl _) (argsL := []) (rest := []) (lenOf pd_2 rfl) rfl (by show 2 * 0 + _ ≤ _; exact Nat.le_of_eq rfl) (hb hby at_14) (fun _ _ => ⟨rfl, e7, (by decide : 0 + 0 ≤ _), (by decide : 0 + 0 ≤ _)⟩)
        dsimp only [Pt.U, Pt.locs, Pt.cells, Pt.slots] at X8 l8 y8 z8 st8 hQ8
        subst l8 y8 z8
        obtain ⟨rfl, M8, e8⟩ := hQ8
        have N8 := Fr.app N7 M8
        refine Goes.on (fun t k => st8.trans k) ?_
        show Goes p e below QQ (T8.setTop (mkF m 17 #[iv p1, iv 2, rv x2, .unset, .unset, .unset] [(.int 116)]))
        refine Goes.on (fun t k => XS.istoreN X8.here hx rfl (hb hby at_17) rfl (l' := #[iv p1, iv 2, rv x2, iv 116, .unset, .unset]) rfl k) ?_
        show Goes p e below QQ (T8.setTop (mkF m 18 #[iv p1, iv 2, rv x2, iv 116, .unset, .unset] []))
        refine Goes.on (fun t k => XS.iloadN X8.here hx rfl (hb hby at_18) rfl k) ?_
        show Goes p e below QQ (T8.setTop (mkF m 19 #[iv p1, iv 2, rv x2, iv 116, .unset, .unset] [(.int 116)]))
        refine Goes.on (fun t k => XS.bipush X8.here hx rfl (hb hby at_19) k) ?_
        show Goes p e below QQ (T8.setTop (mkF m 21 #[iv p1, iv 2, rv x2, iv 116, .unset, .unset] [(.int 97), (.int 116)]))
        refine Goes.on (fun t k => XS.icmpNo X8.here hx rfl (hb hby at_21) rfl (feq (by decide)).1 k) ?_
        show Goes p e below QQ (T8.setTop (mkF m 24 #[iv p1, iv 2, rv x2, iv 116, .unset, .unset] []))
        refine Goes.on (fun t k => XS.iloadN X8.here hx rfl (hb hby at_24) rfl k) ?_
        show Goes p e below QQ (T8.setTop (mkF m 25 #[iv p1, iv 2, rv x2, iv 116, .unset, .unset] [(.int 116)]))
        refine Goes.on (fun t k => XS.bipush X8.here hx rfl (hb hby at_25) k) ?_
        show Goes p e below QQ (T8.setTop (mkF m 27 #[iv p1, iv 2, rv x2, iv 116, .unset, .unset] [(.int 98), (.int 116)]))
        refine Goes.on (fun t k => XS.icmpNo X8.here hx rfl (hb hby at_27) rfl (feq (by decide)).1 k) ?_
        show Goes p e below QQ (T8.setTop (mkF m 30 #[iv p1, iv 2, rv x2, iv 116, .unset, .unset] []))
        refine Goes.on (fun t k => XS.iloadN X8.here hx rfl (hb hby at_30) rfl k) ?_
        show Goes p e below QQ (T8.setTop (mkF m 31 #[iv p1, iv 2, rv x2, iv 116, .unset, .unset] [(.int 116)]))
        refine Goes.on (fun t k => XS.bipush X8.here hx rfl (hb hby at_31) k) ?_
        show Goes p e below QQ (T8.setTop (mkF m 33 #[iv p1, iv 2, rv x2, iv 116, .unset, .unset] [(.int 99), (.int 116)]))
        refine Goes.on (fun t k => XS.icmpNo X8.here hx rfl (hb hby at_33) rfl (feq (by decide)).1 k) ?_
        show Goes p e below QQ (T8.setTop (mkF m 36 #[iv p1, iv 2, rv x2, iv 116, .unset, .unset] []))
        refine Goes.on (fun t k => XS.iloadN X8.here hx rfl (hb hby at_36) rfl k) ?_
        show Goes p e below QQ (T8.setTop (mkF m 37 #[iv p1, iv 2, rv x2, iv 116, .unset, .unset] [(.int 116)]))
        refine Goes.on (fun t k => XS.bipush X8.here hx rfl (hb hby at_37) k) ?_
        show Goes p e below QQ (T8.setTop (mkF m 39 #[iv p1, iv 2, rv x2, iv 116, .unset, .unset] [(.int 115), (.int 116)]))
        refine Goes.on (fun t k => XS.icmpYes X8.here hx rfl (pc0 := 39) (pc' := 46) rfl (hb hby at_39) rfl (feq (by decide)).2 (by decide) (by decide) k) ?_
        show Goes p e below QQ (T8.setTop (mkF m 46 #[iv p1, iv 2, rv x2, iv 116, .unset, .unset] []))
        refine Goes.on (fun t k => XS.iconst X8.here hx rfl (hb hby at_46) k) ?_
        show Goes p e below QQ (T8.setTop (mkF m 47 #[iv p1, iv 2, rv x2, iv 116, .unset, .unset] [(.int 0)]))
        refine Goes.on (fun t k => XS.istore X8.here hx rfl (hb hby at_47) rfl (l' := #[iv p1, iv 2, rv x2, iv 116, iv 0, .unset]) rfl k) ?_
        show Goes p e below QQ (T8.setTop (mkF m 49 #[iv p1, iv 2, rv x2, iv 116, iv 0, .unset] []))
        refine Goes.on (fun t k => XS.iloadN X8.here hx rfl (hb hby at_49) rfl k) ?_
        show Goes p e below QQ (T8.setTop (mkF m 50 #[iv p1, iv 2, rv x2, iv 116, iv 0, .unset] [(.int 2)]))
        refine Goes.on (fun t k => XS.iconst X8.here hx rfl (hb hby at_50) k) ?_
        show Goes p e below QQ (T8.setTop (mkF m 51 #[iv p1, iv 2, rv x2, iv 116, iv 0, .unset] [(.int 3), (.int 2)]))
        refine Goes.on (fun t k => XS.icmpYes X8.here hx rfl (pc0 := 51) (pc' := 58) rfl (hb hby at_51) rfl (tlt (by decide)).1 (by decide) (by decide) k) ?_
        show Goes p e below QQ (T8.setTop (mkF m 58 #[iv p1, iv 2, rv x2, iv 116, iv 0, .unset] []))
        refine Goes.on (fun t k => XS.iconst X8.here hx rfl (hb hby at_58) k) ?_
        show Goes p e below QQ (T8.setTop (mkF m 59 #[iv p1, iv 2, rv x2, iv 116, iv 0, .unset] [(.int 0)]))
        refine Goes.on (fun t k => XS.istore X8.here hx rfl (hb hby at_59) rfl (l' := #[iv p1, iv 2, rv x2, iv 116, iv 0, iv 0]) rfl k) ?_
        show Goes p e below QQ (T8.setTop (mkF m 61 #[iv p1, iv 2, rv x2, iv 116, iv 0, iv 0] []))
        refine Goes.on (fun t k => XS.aloadN X8.here hx rfl (hb hby at_61) rfl rfl k) ?_
        show Goes p e below QQ (T8.setTop (mkF m 62 #[iv p1, iv 2, rv x2, iv 116, iv 0, iv 0] [(.ref x2)]))
        obtain ⟨cq9, kq9, q9a, q9b, q9c⟩ := isOf hZ e8 E_x2
        obtain ⟨_, _, ⟨T9, L9, k9, n9⟩, -, X9, ⟨Lc9, hQ9, l9, y9, z9⟩, st9⟩ := X8.virtualBack hx (y := (⟨"com/example/lendgate/lendgate/policy/Criterium", "isPlace", "()Z"⟩ : MethodName)) (z := (⟨"com/example/lendgate/lendgate/policy/Criterium", "isPlace", "()Z"⟩ : MethodName)) hown (mvT hZ (hw _ (List.mem_of_getElem? (i := 15) rfl))) (mvT hZ (hw _ (List.mem_of_getElem? (i := 16) rfl))) (notFace_of_selects (args := #[]) (mvT hZ (hw _ (List.mem_of_getElem? (i := 18) rfl)))) (mvT hZ (hw _ (List.mem_of_getElem? (i := 18) rfl))) (mvT hZ (hw _ (List.mem_of_getElem? (i := 17) rfl))) (by decide) (backOf (W := 0) (rm4_2 l Z a0 hw [] x2 h0 n0 (Nat.le_trans Z0 K0.1) E_x2 F_ordinal_x2) hZ (hw _ (List.mem_of_getElem? (i := 19) rfl)) (hw _ (List.mem_of_getElem? (i := 6) rfl)) (by decide) (by decide)) q9a q9c (g := (mkF m 62 #[iv p1, iv 2, rv x2, iv 116, iv 0, iv 0] [(.ref x2)])) rfl (by rw [hml]; rfl) (Steps.refl _) (argsL := []) (rest := []) (lenOf pd_3 rfl) rfl (by show 2 * 0 + _ ≤ _; exact Nat.le_of_eq rfl) (hb hby at_62) (fun _ _ => ⟨rfl, e8, (by decide : 0 + 0 ≤ _), (by decide : 0 + 0 ≤ _)⟩)
        dsimp only [Pt.U, Pt.locs, Pt.cells, Pt.slots] at X9 l9 y9 z9 st9 hQ9
        subst l9 y9 z9
        obtain ⟨rfl, M9, e9⟩ := hQ9
        have N9 := Fr.app N8 M9
        refine Goes.on (fun t k => st9.trans k) ?_
        show Goes p e below QQ (T9.setTop (mkF m 65 #[iv p1, iv 2, rv x2, iv 116, iv 0, iv 0] [(.int 0)]))
        refine Goes.on (fun t k => XS.iload X9.here hx rfl (hb hby at_65) rfl k) ?_
        show Goes p e below QQ (T9.setTop (mkF m 67 #[iv p1, iv 2, rv x2, iv 116, iv 0, iv 0] [(.int 0), (.int 0)]))
        refine Goes.on (fun t k => XS.icmpNo X9.here hx rfl (hb hby at_67) rfl (teq (by decide)).2 k) ?_
        show Goes p e below QQ (T9.setTop (mkF m 70 #[iv p1, iv 2, rv x2, iv 116, iv 0, iv 0] []))
        refine Goes.on (fun t k => XS.iload X9.here hx rfl (hb hby at_70) rfl k) ?_
        show Goes p e below QQ (T9.setTop (mkF m 72 #[iv p1, iv 2, rv x2, iv 116, iv 0, iv 0] [(.int 0)]))
        refine Goes.on (fun t k => XS.iload X9.here hx rfl (hb hby at_72) rfl k) ?_
        show Goes p e below QQ (T9.setTop (mkF m 74 #[iv p1, iv 2, rv x2, iv 116, iv 0, iv 0] [(.int 0), (.int 0)]))
        refine Goes.on (fun t k => XS.icmpNo X9.here hx rfl (hb hby at_74) rfl (teq (by decide)).2 k) ?_
        show Goes p e below QQ (T9.setTop (mkF m 77 #[iv p1, iv 2, rv x2, iv 116, iv 0, iv 0] []))
        refine Goes.on (fun t k => XS.iconst X9.here hx rfl (hb hby at_77) k) ?_
        show Goes p e below QQ (T9.setTop (mkF m 78 #[iv p1, iv 2, rv x2, iv 116, iv 0, iv 0] [(.int 1)]))
        refine Goes.on (fun t k => XS.goto X9.here hx rfl (pc0 := 78) (pc' := 82) rfl (hb hby at_78) (by decide) (by decide) k) ?_
        show Goes p e below QQ (T9.setTop (mkF m 82 #[iv p1, iv 2, rv x2, iv 116, iv 0, iv 0] [(.int 1)]))
        exact Goes.rN X9 hx (t := .boolean) hret (by simp) hlk (hb hby at_82) hQQ ⟨rfl, N9⟩ (by decide) (by decide)
      · by_cases hi3 : ((p1 &&& (2147483647 : Int32)) % (7 : Int32)) = (3 : Int32)
        · rw [hi3]
          show Goes p e below QQ (s₁.setTop (mkF m 8 #[iv p1, iv 3, .unset, .unset, .unset, .unset] []))
          refine Goes.on (fun t k => XS.iloadN X0.here hx rfl (hb hby at_8) rfl k) ?_
          show Goes p e below QQ (s₁.setTop (mkF m 9 #[iv p1, iv 3, .unset, .unset, .unset, .unset] [(.int 3)]))
          obtain ⟨_, _, ⟨T10, L10, k10, n10⟩, -, X10, ⟨Lc10, hQ10, l10, y10, z10⟩, st10⟩ := Jvm.LawKit.callS X0 hx (y := (⟨"com/example/lendgate/lendgate/policy/CriteriumIsPlacePinLaw", "pick", "(I)Lcom/example/lendgate/lendgate/policy/Criterium;"⟩ : MethodName)) hown (mvT hZ (hw _ (List.mem_of_getElem? (i := 1) rfl))) (mvT hZ (hw _ (List.mem_of_getElem? (i := 2) rfl))) (mvT hZ (hw _ (List.mem_of_getElem? (i := 3) rfl))) (mvT hZ (hw _ (List.mem_of_getElem? (i := 4) rfl))) (by decide) (backOf (W := 0) (rm1 l Z a0 hw [] (3 : Int32) x0 x1 x2 x3 x4 x5 x6 h0 n0 (Nat.le_trans Z0 K0.1) S_PATRON_GROUP S_MATERIAL_TYPE S_LOAN_TYPE S_INSTITUTION S_CAMPUS S_LIBRARY S_LOCATION O_0) hZ (hw _ (List.mem_of_getElem? (i := 4) rfl)) (hw _ (List.mem_of_getElem? (i := 3) rfl)) (by decide) (by decide)) (g := (mkF m 9 #[iv p1, iv 3, .unset, .unset, .unset, .unset] [(.int 3)])) rfl (by rw [hml]; rfl) (argsL := [(.int 3)]) (rest := []) (lenOf pd_1 rfl) rfl (by show 2 * 0 + _ ≤ _; exact Nat.le_of_eq rfl) (hb hby at_9) (fun _ _ => ⟨rfl, e0, (by decide : 0 + 0 ≤ _), (by decide : 0 + 0 ≤ _)⟩)
          dsimp only [Pt.U, Pt.locs, Pt.cells, Pt.slots] at X10 l10 y10 z10 st10 hQ10
          subst l10 y10 z10
          obtain ⟨rfl, M10, e10⟩ := hQ10
          have N10 := Fr.app N0 M10
          refine Goes.on (fun t k => st10 _ k) ?_
          show Goes p e below QQ (T10.setTop (mkF m 12 #[iv p1, iv 3, .unset, .unset, .unset, .unset] [(.ref (pickA (3 : Int32) x0 x1 x2 x3 x4 x5 x6))]))
          rw [(show (pickA (3 : Int32) x0 x1 x2 x3 x4 x5 x6) = x3 from ((if_neg (by decide)).trans ((if_neg (by decide)).trans ((if_neg (by decide)).trans ((if_pos (by decide)).trans rfl)))))]
          show Goes p e below QQ (T10.setTop (mkF m 12 #[iv p1, iv 3, .unset, .unset, .unset, .unset] [(.ref x3)]))
          refine Goes.on (fun t k => XS.astoreN X10.here hx rfl (hb hby at_12) rfl rfl (l' := #[iv p1, iv 3, rv x3, .unset, .unset, .unset]) rfl k) ?_
          show Goes p e below QQ (T10.setTop (mkF m 13 #[iv p1, iv 3, rv x3, .unset, .unset, .unset] []))
          refine Goes.on (fun t k => XS.aloadN X10.here hx rfl (hb hby at_13) rfl rfl k) ?_
          show Goes p e below QQ (T10.setTop (mkF m 14 #[iv p1, iv 3, rv x3, .unset, .unset, .unset] [(.ref x3)]))
          obtain ⟨cq11, kq11, q11a, q11b, q11c⟩ := isOf hZ e10 E_x3
          obtain ⟨_, _, ⟨T11, L11, k11, n11⟩, -, X11, ⟨Lc11, hQ11, l11, y11, z11⟩, st11⟩ := X10.virtualBack hx (y := (⟨"com/example/lendgate/lendgate/policy/Criterium", "letter", "()C"⟩ : MethodName)) (z := (⟨"com/example/lendgate/lendgate/policy/Criterium", "letter", "()C"⟩ : MethodName)) hown (mvT hZ (hw _ (List.mem_of_getElem? (i := 8) rfl))) (mvT hZ (hw _ (List.mem_of_getElem? (i := 9) rfl))) (notFace_of_selects (args := #[]) (mvT hZ (hw _ (List.mem_of_getElem? (i := 11) rfl)))) (mvT hZ (hw _ (List.mem_of_getElem? (i := 11) rfl))) (mvT hZ (hw _ (List.mem_of_getElem? (i := 10) rfl))) (by decide) (backOf (W := 0) (rm2 l Z a0 hw [] x3 (97 : Int32) h0 n0 (Nat.le_trans Z0 K0.1) F_letter_x3 rfl) hZ (hw _ (List.mem_of_getElem? (i := 12) rfl)) (hw _ (List.mem_of_getElem? (i := 6) rfl)) (by decide) (by decide)) q11a q11c (g := (mkF m 14 #[iv p1, iv 3, rv x3, .unset, .unset, .unset] [(.ref x3)])) rfl (by rw [hml]; rfl) (Steps.refl _) (argsL := []) (rest := []) (lenOf pd_2 rfl) rfl (by show 2 * 0 + _ ≤ _; exact Nat.le_of_eq rfl) (hb hby at_14) (fun _ _ => ⟨rfl, e10, (by decide : 0 + 0 ≤ _), (by decide : 0 + 0 ≤ _)⟩)
          dsimp only [Pt.U, Pt.locs, Pt.cells, Pt.slots] at X11 l11 y11 z11 st11 hQ11
          subst l11 y11 z11
          obtain ⟨rfl, M11, e11⟩ := hQ11
          have N11 := Fr.app N10 M11
          refine Goes.on (fun t k => st11.trans k) ?_
          show Goes p e below QQ (T11.setTop (mkF m 17 #[iv p1, iv 3, rv x3, .unset, .unset, .unset] [(.int 97)]))
          refine Goes.on (fun t k => XS.istoreN X11.here hx rfl (hb hby at_17) rfl (l' := #[iv p1, iv 3, rv x3, iv 97, .unset, .unset]) rfl k) ?_
          show Goes p e below QQ (T11.setTop (mkF m 18 #[iv p1, iv 3, rv x3, iv 97, .unset, .unset] []))
          refine Goes.on (fun t k => XS.iloadN X11.here hx rfl (hb hby at_18) rfl k) ?_
          show Goes p e below QQ (T11.setTop (mkF m 19 #[iv p1, iv 3, rv x3, iv 97, .unset, .unset] [(.int 97)]))
          refine Goes.on (fun t k => XS.bipush X11.here hx rfl (hb hby at_19) k) ?_
          show Goes p e below QQ (T11.setTop (mkF m 21 #[iv p1, iv 3, rv x3, iv 97, .unset, .unset] [(.int 97), (.int 97)]))
          refine Goes.on (fun t k => XS.icmpYes X11.here hx rfl (pc0 := 21) (pc' := 42) rfl (hb hby at_21) rfl (teq (by decide)).1 (by decide) (by decide) k) ?_
          show Goes p e below QQ (T11.setTop (mkF m 42 #[iv p1, iv 3, rv x3, iv 97, .unset, .unset] []))
          refine Goes.on (fun t k => XS.iconst X11.here hx rfl (hb hby at_42) k) ?_
          show Goes p e below QQ (T11.setTop (mkF m 43 #[iv p1, iv 3, rv x3, iv 97, .unset, .unset] [(.int 1)]))
          refine Goes.on (fun t k => XS.goto X11.here hx rfl (pc0 := 43) (pc' := 47) rfl (hb hby at_43) (by decide) (by decide) k) ?_
          show Goes p e below QQ (T11.setTop (mkF m 47 #[iv p1, iv 3, rv x3, iv 97, .unset, .unset] [(.int 1)]))
          refine Goes.on (fun t k => XS.istore X11.here hx rfl (hb hby at_47) rfl (l' := #[iv p1, iv 3, rv x3, iv 97, iv 1, .unset]) rfl k) ?_
          show Goes p e below QQ (T11.setTop (mkF m 49 #[iv p1, iv 3, rv x3, iv 97, iv 1, .unset] []))
          refine Goes.on (fun t k => XS.iloadN X11.here hx rfl (hb hby at_49) rfl k) ?_
          show Goes p e below QQ (T11.setTop (mkF m 50 #[iv p1, iv 3, rv x3, iv 97, iv 1, .unset] [(.int 3)]))
          refine Goes.on (fun t k => XS.iconst X11.here hx rfl (hb hby at_50) k) ?_
          show Goes p e below QQ (T11.setTop (mkF m 51 #[iv p1, iv 3, rv x3, iv 97, iv 1, .unset] [(.int 3), (.int 3)]))
          refine Goes.on (fun t k => XS.icmpNo X11.here hx rfl (hb hby at_51) rfl (flt (by decide)).1 k) ?_
          show Goes p e below QQ (T11.setTop (mkF m 54 #[iv p1, iv 3, rv x3, iv 97, iv 1, .unset] []))
          refine Goes.on (fun t k => XS.iconst X11.here hx rfl (hb hby at_54) k) ?_
          show Goes p e below QQ (T11.setTop (mkF m 55 #[iv p1, iv 3, rv x3, iv 97, iv 1, .unset] [(.int 1)]))
          refine Goes.on (fun t k => XS.goto X11.here hx rfl (pc0 := 55) (pc' := 59) rfl (hb hby at_55) (by decide) (by decide) k) ?_
          show Goes p e below QQ (T11.setTop (mkF m 59 #[iv p1, iv 3, rv x3, iv 97, iv 1, .unset] [(.int 1)]))
          refine Goes.on (fun t k => XS.istore X11.here hx rfl (hb hby at_59) rfl (l' := #[iv p1, iv 3, rv x3, iv 97, iv 1, iv 1]) rfl k) ?_
          show Goes p e below QQ (T11.setTop (mkF m 61 #[iv p1, iv 3, rv x3, iv 97, iv 1, iv 1] []))
          refine Goes.on (fun t k => XS.aloadN X11.here hx rfl (hb hby at_61) rfl rfl k) ?_
          show Goes p e below QQ (T11.setTop (mkF m 62 #[iv p1, iv 3, rv x3, iv 97, iv 1, iv 1] [(.ref x3)]))
          obtain ⟨cq12, kq12, q12a, q12b, q12c⟩ := isOf hZ e11 E_x3
          obtain ⟨_, _, ⟨T12, L12, k12, n12⟩, -, X12, ⟨Lc12, hQ12, l12, y12, z12⟩, st12⟩ := X11.virtualBack hx (y := (⟨"com/example/lendgate/lendgate/policy/Criterium", "isPlace", "()Z"⟩ : MethodName)) (z := (⟨"com/example/lendgate/lendgate/policy/Criterium", "isPlace", "()Z"⟩ : MethodName)) hown (mvT hZ (hw _ (List.mem_of_getElem? (i := 15) rfl))) (mvT hZ (hw _ (List.mem_of_getElem? (i := 16) rfl))) (notFace_of_selects (args := #[]) (mvT hZ (hw _ (List.mem_of_getElem? (i := 18) rfl)))) (mvT hZ (hw _ (List.mem_of_getElem? (i := 18) rfl))) (mvT hZ (hw _ (List.mem_of_getElem? (i := 17) rfl))) (by decide) (backOf (W := 0) (rm4_3 l Z a0 hw [] x3 h0 n0 (Nat.le_trans Z0 K0.1) E_x3 F_ordinal_x3) hZ (hw _ (List.mem_of_getElem? (i := 19) rfl)) (hw _ (List.mem_of_getElem? (i := 6) rfl)) (by decide) (by decide)) q12a q12c (g := (mkF m 62 #[iv p1, iv 3, rv x3, iv 97, iv 1, iv 1] [(.ref x3)])) rfl (by rw [hml]; rfl) (Steps.refl _) (argsL := []) (rest := []) (lenOf pd_3 rfl) rfl (by show 2 * 0 + _ ≤ _; exact Nat.le_of_eq rfl) (hb hby at_62) (fun _ _ => ⟨rfl, e11, (by decide : 0 + 0 ≤ _), (by decide : 0 + 0 ≤ _)⟩)
          dsimp only [Pt.U, Pt.locs, Pt.cells, Pt.slots] at X12 l12 y12 z12 st12 hQ12
          subst l12 y12 z12
          obtain ⟨rfl, M12, e12⟩ := hQ12
          have N12 := Fr.app N11 M12
          refine Goes.on (fun t k => st12.trans k) ?_
          show Goes p e below QQ (T12.setTop (mkF m 65 #[iv p1, iv 3, rv x3, iv 97, iv 1, iv 1] [(.int 1)]))
          refine Goes.on (fun t k => XS.iload X12.here hx rfl (hb hby at_65) rfl k) ?_
          show Goes p e below QQ (T12.setTop (mkF m 67 #[iv p1, iv 3, rv x3, iv 97, iv 1, iv 1] [(.int 1), (.int 1)]))
          refine Goes.on (fun t k => XS.icmpNo X12.here hx rfl (hb hby at_67) rfl (teq (by decide)).2 k) ?_
          show Goes p e below QQ (T12.setTop (mkF m 70 #[iv p1, iv 3, rv x3, iv 97, iv 1, iv 1] []))
          refine Goes.on (fun t k => XS.iload X12.here hx rfl (hb hby at_70) rfl k) ?_
          show Goes p e below QQ (T12.setTop (mkF m 72 #[iv p1, iv 3, rv x3, iv 97, iv 1, iv 1] [(.int 1)]))
          refine Goes.on (fun t k => XS.iload X12.here hx rfl (hb hby at_72) rfl k) ?_
          show Goes p e below QQ (T12.setTop (mkF m 74 #[iv p1, iv 3, rv x3, iv 97, iv 1, iv 1] [(.int 1), (.int 1)]))
          refine Goes.on (fun t k => XS.icmpNo X12.here hx rfl (hb hby at_74) rfl (teq (by decide)).2 k) ?_
          show Goes p e below QQ (T12.setTop (mkF m 77 #[iv p1, iv 3, rv x3, iv 97, iv 1, iv 1] []))
          refine Goes.on (fun t k => XS.iconst X12.here hx rfl (hb hby at_77) k) ?_
          show Goes p e below QQ (T12.setTop (mkF m 78 #[iv p1, iv 3, rv x3, iv 97, iv 1, iv 1] [(.int 1)]))
          refine Goes.on (fun t k => XS.goto X12.here hx rfl (pc0 := 78) (pc' := 82) rfl (hb hby at_78) (by decide) (by decide) k) ?_
          show Goes p e below QQ (T12.setTop (mkF m 82 #[iv p1, iv 3, rv x3, iv 97, iv 1, iv 1] [(.int 1)]))
          exact Goes.rN X12 hx (t := .boolean) hret (by simp) hlk (hb hby at_82) hQQ ⟨rfl, N12⟩ (by decide) (by decide)
        · by_cases hi4 : ((p1 &&& (2147483647 : Int32)) % (7 : Int32)) = (4 : Int32)
          · rw [hi4]
            show Goes p e below QQ (s₁.setTop (mkF m 8 #[iv p1, iv 4, .unset, .unset, .unset, .unset] []))
            refine Goes.on (fun t k => XS.iloadN X0.here hx rfl (hb hby at_8) rfl k) ?_
            show Goes p e below QQ (s₁.setTop (mkF m 9 #[iv p1, iv 4, .unset, .unset, .unset, .unset] [(.int 4)]))
            obtain ⟨_, _, ⟨T13, L13, k13, n13⟩, -, X13, ⟨Lc13, hQ13, l13, y13, z13⟩, st13⟩ := Jvm.LawKit.callS X0 hx (y := (⟨"com/example/lendgate/lendgate/policy/CriteriumIsPlacePinLaw", "pick", "(I)Lcom/example/lendgate/lendgate/policy/Criterium;"⟩ : MethodName)) hown (mvT hZ (hw _ (List.mem_of_getElem? (i := 1) rfl))) (mvT hZ (hw _ (List.mem_of_getElem? (i := 2) rfl))) (mvT hZ (hw _ (List.mem_of_getElem? (i := 3) rfl))) (mvT hZ (hw _ (List.mem_of_getElem? (i := 4) rfl))) (by decide) (backOf (W := 0) (rm1 l Z a0 hw [] (4 : Int32) x0 x1 x2 x3 x4 x5 x6 h0 n0 (Nat.le_trans Z0 K0.1) S_PATRON_GROUP S_MATERIAL_TYPE S_LOAN_TYPE S_INSTITUTION S_CAMPUS S_LIBRARY S_LOCATION O_0) hZ (hw _ (List.mem_of_getElem? (i := 4) rfl)) (hw _ (List.mem_of_getElem? (i := 3) rfl)) (by decide) (by decide)) (g := (mkF m 9 #[iv p1, iv 4, .unset, .unset, .unset, .unset] [(.int 4)])) rfl (by rw [hml]; rfl) (argsL := [(.int 4)]) (rest := []) (lenOf pd_1 rfl) rfl (by show 2 * 0 + _ ≤ _; exact Nat.le_of_eq rfl) (hb hby at_9) (fun _ _ => ⟨rfl, e0, (by decide : 0 + 0 ≤ _), (by decide : 0 + 0 ≤ _)⟩)
            dsimp only [Pt.U, Pt.locs, Pt.cells, Pt.slots] at X13 l13 y13 z13 st13 hQ13
            subst l13 y13 z13
            obtain ⟨rfl, M13, e13⟩ := hQ13
            have N13 := Fr.app N0 M13
            refine Goes.on (fun t k => st13 _ k) ?_
            show Goes p e below QQ (T13.setTop (mkF m 12 #[iv p1, iv 4, .unset, .unset, .unset, .unset] [(.ref (pickA (4 : Int32) x0 x1 x2 x3 x4 x5 x6))]))
            rw [(show (pickA (4 : Int32) x0 x1 x2 x3 x4 x5 x6) = x4 from ((if_neg (by decide)).trans ((if_neg (by decide)).trans ((if_neg (by decide)).trans ((if_neg (by decide)).trans ((if_pos (by decide)).trans rfl))))))]
            show Goes p e below QQ (T13.setTop (mkF m 12 #[iv p1, iv 4, .unset, .unset, .unset, .unset] [(.ref x4)]))
            refine Goes.on (fun t k => XS.astoreN X13.here hx rfl (hb hby at_12) rfl rfl (l' := #[iv p1, iv 4, rv x4, .unset, .unset, .unset]) rfl k) ?_
            show Goes p e below QQ (T13.setTop (mkF m 13 #[iv p1, iv 4, rv x4, .unset, .unset, .unset] []))
            refine Goes.on (fun t k => XS.aloadN X13.here hx rfl (hb hby at_13) rfl rfl k) ?_
            show Goes p e below QQ (T13.setTop (mkF m 14 #[iv p1, iv 4, rv x4, .unset, .unset, .unset] [(.ref x4)]))
            obtain ⟨cq14, kq14, q14a, q14b, q14c⟩ := isOf hZ e13 E_x4
            obtain ⟨_, _, ⟨T14, L14, k14, n14⟩, -, X14, ⟨Lc14, hQ14, l14, y14, z14⟩, st14⟩ := X13.virtualBack hx (y := (⟨"com/example/lendgate/lendgate/policy/Criterium", "letter", "()C"⟩ : MethodName)) (z := (⟨"com/example/lendgate/lendgate/policy/Criterium", "letter", "()C"⟩ : MethodName)) hown (mvT hZ (hw _ (List.mem_of_getElem? (i := 8) rfl))) (mvT hZ (hw _ (List.mem_of_getElem? (i := 9) rfl))) (notFace_of_selects (args := #[]) (mvT hZ (hw _ (List.mem_of_getElem? (i := 11) rfl)))) (mvT hZ (hw _ (List.mem_of_getElem? (i := 11) rfl))) (mvT hZ (hw _ (List.mem_of_getElem? (i := 10) rfl))) (by decide) (backOf (W := 0) (rm2 l Z a0 hw [] x4 (98 : Int32) h0 n0 (Nat.le_trans Z0 K0.1) F_letter_x4 rfl) hZ (hw _ (List.mem_of_getElem? (i := 12) rfl)) (hw _ (List.mem_of_getElem? (i := 6) rfl)) (by decide) (by decide)) q14a q14c (g := (mkF m 14 #[iv p1, iv 4, rv x4, .unset, .unset, .unset] [(.ref x4)])) rfl (by rw [hml]; rfl) (Steps.refl _) (argsL := []) (rest := []) (lenOf pd_2 rfl) rfl (by show 2 * 0 + _ ≤ _; exact Nat.le_of_eq rfl) (hb hby at_14) (fun _ _ => ⟨rfl, e13, (by decide : 0 + 0 ≤ _), (by decide : 0 + 0 ≤ _)⟩)
            dsimp only [Pt.U, Pt.locs, Pt.cells, Pt.slots] at X14 l14 y14 z14 st14 hQ14
            subst l14 y14 z14
            obtain ⟨rfl, M14, e14⟩ := hQ14
            have N14 := Fr.app N13 M14
            refine Goes.on (fun t k => st14.trans k) ?_
            show Goes p e below QQ (T14.setTop (mkF m 17 #[iv p1, iv 4, rv x4, .unset, .unset, .unset] [(.int 98)]))
            refine Goes.on (fun t k => XS.istoreN X14.here hx rfl (hb hby at_17) rfl (l' := #[iv p1, iv 4, rv x4, iv 98, .unset, .unset]) rfl k) ?_
            show Goes p e below QQ (T14.setTop (mkF m 18 #[iv p1, iv 4, rv x4, iv 98, .unset, .unset] []))
            refine Goes.on (fun t k => XS.iloadN X14.here hx rfl (hb hby at_18) rfl k) ?_
            show Goes p e below QQ (T14.setTop (mkF m 19 #[iv p1, iv 4, rv x4, iv 98, .unset, .unset] [(.int 98)]))
            refine Goes.on (fun t k => XS.bipush X14.here hx rfl (hb hby at_19) k) ?_
            show Goes p e below QQ (T14.setTop (mkF m 21 #[iv p1, iv 4, rv x4, iv 98, .unset, .unset] [(.int 97), (.int 98)]))
            refine Goes.on (fun t k => XS.icmpNo X14.here hx rfl (hb hby at_21) rfl (feq (by decide)).1 k) ?_
            show Goes p e below QQ (T14.setTop (mkF m 24 #[iv p1, iv 4, rv x4, iv 98, .unset, .unset] []))
            refine Goes.on (fun t k => XS.iloadN X14.here hx rfl (hb hby at_24) rfl k) ?_
            show Goes p e below QQ (T14.setTop (mkF m 25 #[iv p1, iv 4, rv x4, iv 98, .unset, .unset] [(.int 98)]))
            refine Goes.on (fun t k => XS.bipush X14.here hx rfl (hb hby at_25) k) ?_
            show Goes p e below QQ (T14.setTop (mkF m 27 #[iv p1, iv 4, rv x4, iv 98, .unset, .unset] [(.int 98), (.int 98)]))
            refine Goes.on (fun t k => XS.icmpYes X14.here hx rfl (pc0 := 27) (pc' := 42) rfl (hb hby at_27) rfl (teq (by decide)).1 (by decide) (by decide) k) ?_
            show Goes p e below QQ (T14.setTop (mkF m 42 #[iv p1, iv 4, rv x4, iv 98, .unset, .unset] []))
            refine Goes.on (fun t k => XS.iconst X14.here hx rfl (hb hby at_42) k) ?_
            show Goes p e below QQ (T14.setTop (mkF m 43 #[iv p1, iv 4, rv x4, iv 98, .unset, .unset] [(.int 1)]))
            refine Goes.on (fun t k => XS.goto X14.here hx rfl (pc0 := 43) (pc' := 47) rfl (hb hby at_43) (by decide) (by decide) k) ?_
            show Goes p e below QQ (T14.setTop (mkF m 47 #[iv p1, iv 4, rv x4, iv 98, .unset, .unset] [(.int 1)]))
            refine Goes.on (fun t k => XS.istore X14.here hx rfl (hb hby at_47) rfl (l' := #[iv p1, iv 4, rv x4, iv 98, iv 1, .unset]) rfl k) ?_
            show Goes p e below QQ (T14.setTop (mkF m 49 #[iv p1, iv 4, rv x4, iv 98, iv 1, .unset] []))
            refine Goes.on (fun t k => XS.iloadN X14.here hx rfl (hb hby at_49) rfl k) ?_
            show Goes p e below QQ (T14.setTop (mkF m 50 #[iv p1, iv 4, rv x4, iv 98, iv 1, .unset] [(.int 4)]))
            refine Goes.on (fun t k => XS.iconst X14.here hx rfl (hb hby at_50) k) ?_
            show Goes p e below QQ (T14.setTop (mkF m 51 #[iv p1, iv 4, rv x4, iv 98, iv 1, .unset] [(.int 3), (.int 4)]))
            refine Goes.on (fun t k => XS.icmpNo X14.here hx rfl (hb hby at_51) rfl (flt (by decide)).1 k) ?_
            show Goes p e below QQ (T14.setTop (mkF m 54 #[iv p1, iv 4, rv x4, iv 98, iv 1, .unset] []))
            refine Goes.on (fun t k => XS.iconst X14.here hx rfl (hb hby at_54) k) ?_
            show Goes p e below QQ (T14.setTop (mkF m 55 #[iv p1, iv 4, rv x4, iv 98, iv 1, .unset] [(.int 1)]))
            refine Goes.on (fun t k => XS.goto X14.here hx rfl (pc0 := 55) (pc' := 59) rfl (hb hby at_55) (by decide) (by decide) k) ?_
            show Goes p e below QQ (T14.setTop (mkF m 59 #[iv p1, iv 4, rv x4, iv 98, iv 1, .unset] [(.int 1)]))
            refine Goes.on (fun t k => XS.istore X14.here hx rfl (hb hby at_59) rfl (l' := #[iv p1, iv 4, rv x4, iv 98, iv 1, iv 1]) rfl k) ?_
            show Goes p e below QQ (T14.setTop (mkF m 61 #[iv p1, iv 4, rv x4, iv 98, iv 1, iv 1] []))
            refine Goes.on (fun t k => XS.aloadN X14.here hx rfl (hb hby at_61) rfl rfl k) ?_
            show Goes p e below QQ (T14.setTop (mkF m 62 #[iv p1, iv 4, rv x4, iv 98, iv 1, iv 1] [(.ref x4)]))
            obtain ⟨cq15, kq15, q15a, q15b, q15c⟩ := isOf hZ e14 E_x4
            obtain ⟨_, _, ⟨T15, L15, k15, n15⟩, -, X15, ⟨Lc15, hQ15, l15, y15, z15⟩, st15⟩ := X14.virtualBack hx (y := (⟨"com/example/lendgate/lendgate/policy/Criterium", "isPlace", "()Z"⟩ : MethodName)) (z := (⟨"com/example/lendgate/lendgate/policy/Criterium", "isPlace", "()Z"⟩ : MethodName)) hown (mvT hZ (hw _ (List.mem_of_getElem? (i := 15) rfl))) (mvT hZ (hw _ (List.mem_of_getElem? (i := 16) rfl))) (notFace_of_selects (args := #[]) (mvT hZ (hw _ (List.mem_of_getElem? (i := 18) rfl)))) (mvT hZ (hw _ (List.mem_of_getElem? (i := 18) rfl))) (mvT hZ (hw _ (List.mem_of_getElem? (i := 17) rfl))) (by decide) (backOf (W := 0) (rm4_4 l Z a0 hw [] x4 h0 n0 (Nat.le_trans Z0 K0.1) E_x4 F_ordinal_x4) hZ (hw _ (List.mem_of_getElem? (i := 19) rfl)) (hw _ (List.mem_of_getElem? (i := 6) rfl)) (by decide) (by decide)) q15a q15c (g := (mkF m 62 #[iv p1, iv 4, rv x4, iv 98, iv 1, iv 1] [(.ref x4)])) rfl (by rw [hml]; rfl) (Steps.refl _) (argsL := []) (rest := []) (lenOf pd_3 rfl) rfl (by show 2 * 0 + _ ≤ _; exact Nat.le_of_eq rfl) (hb hby at_62) (fun _ _ => ⟨rfl, e14, (by decide : 0 + 0 ≤ _), (by decide : 0 + 0 ≤ _)⟩)
            dsimp only [Pt.U, Pt.locs, Pt.cells, Pt.slots] at X15 l15 y15 z15 st15 hQ15
            subst l15 y15 z15
            obtain ⟨rfl, M15, e15⟩ := hQ15
            have N15 := Fr.app N14 M15
            refine Goes.on (fun t k => st15.trans k) ?_
            show Goes p e below QQ (T15.setTop (mkF m 65 #[iv p1, iv 4, rv x4, iv 98, iv 1, iv 1] [(.int 1)]))
            refine Goes.on (fun t k => XS.iload X15.here hx rfl (hb hby at_65) rfl k) ?_
            show Goes p e below QQ (T15.setTop (mkF m 67 #[iv p1, iv 4, rv x4, iv 98, iv 1, iv 1] [(.int 1), (.int 1)]))
            refine Goes.on (fun t k => XS.icmpNo X15.here hx rfl (hb hby at_67) rfl (teq (by decide)).2 k) ?_
            show Goes p e below QQ (T15.setTop (mkF m 70 #[iv p1, iv 4, rv x4, iv 98, iv 1, iv 1] []))
            refine Goes.on (fun t k => XS.iload X15.here hx rfl (hb hby at_70) rfl k) ?_
            show Goes p e below QQ (T15.setTop (mkF m 72 #[iv p1, iv 4, rv x4, iv 98, iv 1, iv 1] [(.int 1)]))
            refine Goes.on (fun t k => XS.iload X15.here hx rfl (hb hby at_72) rfl k) ?_
            show Goes p e below QQ (T15.setTop (mkF m 74 #[iv p1, iv 4, rv x4, iv 98, iv 1, iv 1] [(.int 1), (.int 1)]))
            refine Goes.on (fun t k => XS.icmpNo X15.here hx rfl (hb hby at_74) rfl (teq (by decide)).2 k) ?_
            show Goes p e below QQ (T15.setTop (mkF m 77 #[iv p1, iv 4, rv x4, iv 98, iv 1, iv 1] []))
            refine Goes.on (fun t k => XS.iconst X15.here hx rfl (hb hby at_77) k) ?_
            show Goes p e below QQ (T15.setTop (mkF m 78 #[iv p1, iv 4, rv x4, iv 98, iv 1, iv 1] [(.int 1)]))
            refine Goes.on (fun t k => XS.goto X15.here hx rfl (pc0 := 78) (pc' := 82) rfl (hb hby at_78) (by decide) (by decide) k) ?_
            show Goes p e below QQ (T15.setTop (mkF m 82 #[iv p1, iv 4, rv x4, iv 98, iv 1, iv 1] [(.int 1)]))
            exact Goes.rN X15 hx (t := .boolean) hret (by simp) hlk (hb hby at_82) hQQ ⟨rfl, N15⟩ (by decide) (by decide)
          · by_cases hi5 : ((p1 &&& (2147483647 : Int32)) % (7 : Int32)) = (5 : Int32)
            · rw [hi5]
              show Goes p e below QQ (s₁.setTop (mkF m 8 #[iv p1, iv 5, .unset, .unset, .unset, .unset] []))
              refine Goes.on (fun t k => XS.iloadN X0.here hx rfl (hb hby at_8) rfl k) ?_
              show Goes p e below QQ (s₁.setTop (mkF m 9 #[iv p1, iv 5, .unset, .unset, .unset, .unset] [(.int 5)]))
              obtain ⟨_, _, ⟨T16, L16, k16, n16⟩, -, X16, ⟨Lc16, hQ16, l16, y16, z16⟩, st16⟩ := Jvm.LawKit.callS X0 hx (y := (⟨"com/example/lendgate/lendgate/policy/CriteriumIsPlacePinLaw", "pick", "(I)Lcom/example/lendgate/lendgate/policy/Criterium;"⟩ : MethodName)) hown (mvT hZ (hw _ (List.mem_of_getElem? (i := 1) rfl))) (mvT hZ (hw _ (List.mem_of_getElem? (i := 2) rfl))) (mvT hZ (hw _ (List.mem_of_getElem? (i := 3) rfl))) (mvT hZ (hw _ (List.mem_of_getElem? (i := 4) rfl))) (by decide) (backOf (W := 0) (rm1 l Z a0 hw [] (5 : Int32) x0 x1 x2 x3 x4 x5 x6 h0 n0 (Nat.le_trans Z0 K0.1) S_PATRON_GROUP S_MATERIAL_TYPE S_LOAN_TYPE S_INSTITUTION S_CAMPUS S_LIBRARY S_LOCATION O_0) hZ (hw _ (List.mem_of_getElem? (i := 4) rfl)) (hw _ (List.mem_of_getElem? (i := 3) rfl)) (by decide) (by decide)) (g := (mkF m 9 #[iv p1, iv 5, .unset, .unset, .unset, .unset] [(.int 5)])) rfl (by rw [hml]; rfl) (argsL := [(.int 5)]) (rest := []) (lenOf pd_1 rfl) rfl (by show 2 * 0 + _ ≤ _; exact Nat.le_of_eq rfl) (hb hby at_9) (fun _ _ => ⟨rfl, e0, (by decide : 0 + 0 ≤ _), (by decide : 0 + 0 ≤ _)⟩)
              dsimp only [Pt.U, Pt.locs, Pt.cells, Pt.slots] at X16 l16 y16 z16 st16 hQ16
              subst l16 y16 z16
              obtain ⟨rfl, M16, e16⟩ := hQ16
              have N16 := Fr.app N0 M16
              refine Goes.on (fun t k => st16 _ k) ?_
              show Goes p e below QQ (T16.setTop (mkF m 12 #[iv p1, iv 5, .unset, .unset, .unset, .unset] [(.ref (pickA (5 : Int32) x0 x1 x2 x3 x4 x5 x6))]))
              rw [(show (pickA (5 : Int32) x0 x1 x2 x3 x4 x5 x6) = x5 from ((if_neg (by decide)).trans ((if_neg (by decide)).trans ((if_neg (by decide)).trans ((if_neg (by decide)).trans ((if_neg (by decide)).trans ((if_pos (by decide)).trans rfl)))))))]
              show Goes p e below QQ (T16.setTop (mkF m 12 #[iv p1, iv 5, .unset, .unset, .unset, .unset] [(.ref x5)]))
              refine Goes.on (fun t k => XS.astoreN X16.here hx rfl (hb hby at_12) rfl rfl (l' := #[iv p1, iv 5, rv x5, .unset, .unset, .unset]) rfl k) ?_
              show Goes p e below QQ (T16.setTop (mkF m 13 #[iv p1, iv 5, rv x5, .unset, .unset, .unset] []))
              refine Goes.on (fun t k => XS.aloadN X16.here hx rfl (hb hby at_13) rfl rfl k) ?_
              show Goes p e below QQ (T16.setTop (mkF m 14 #[iv p1, iv 5, rv x5, .unset, .unset, .unset] [(.ref x5)]))
              obtain ⟨cq17, kq17, q17a, q17b, q17c⟩ := isOf hZ e16 E_x5
              obtain ⟨_, _, ⟨T17, L17, k17, n17⟩, -, X17, ⟨Lc17, hQ17, l17, y17, z17⟩, st17⟩ := X16.virtualBack hx (y := (⟨"com/example/lendgate/lendgate/policy/Criterium", "letter", "()C"⟩ : MethodName)) (z := (⟨"com/example/lendgate/lendgate/policy/Criterium", "letter", "()C"⟩ : MethodName)) hown (mvT hZ (hw _ (List.mem_of_getElem? (i := 8) rfl))) (mvT hZ (hw _ (List.mem_of_getElem? (i := 9) rfl))) (notFace_of_selects (args := #[]) (mvT hZ (hw _ (List.mem_of_getElem? (i := 11) rfl)))) (mvT hZ (hw _ (List.mem_of_getElem? (i := 11) rfl))) (mvT hZ (hw _ (List.mem_of_getElem? (i := 10) rfl))) (by decide) (backOf (W := 0) (rm2 l Z a0 hw [] x5 (99 : Int32) h0 n0 (Nat.le_trans Z0 K0.1) F_letter_x5 rfl) hZ (hw _ (List.mem_of_getElem? (i := 12) rfl)) (hw _ (List.mem_of_getElem? (i := 6) rfl)) (by decide) (by decide)) q17a q17c (g := (mkF m 14 #[iv p1, iv 5, rv x5, .unset, .unset, .unset] [(.ref x5)])) rfl (by rw [hml]; rfl) (Steps.refl _) (argsL := []) (rest := []) (lenOf pd_2 rfl) rfl (by show 2 * 0 + _ ≤ _; exact Nat.le_of_eq rfl) (hb hby at_14) (fun _ _ => ⟨rfl, e16, (by decide : 0 + 0 ≤ _), (by decide : 0 + 0 ≤ _)⟩)
              dsimp only [Pt.U, Pt.locs, Pt.cells, Pt.slots] at X17 l17 y17 z17 st17 hQ17
              subst l17 y17 z17
              obtain ⟨rfl, M17, e17⟩ := hQ17
              have N17 := Fr.app N16 M17
              refine Goes.on (fun t k => st17.trans k) ?_
              show Goes p e below QQ (T17.setTop (mkF m 17 #[iv p1, iv 5, rv x5, .unset, .unset, .unset] [(.int 99)]))
              refine Goes.on (fun t k => XS.istoreN X17.here hx rfl (hb hby at_17) rfl (l' := #[iv p1, iv 5, rv x5, iv 99, .unset, .unset]) rfl k) ?_
              show Goes p e below QQ (T17.setTop (mkF m 18 #[iv p1, iv 5, rv x5, iv 99, .unset, .unset] []))
              refine Goes.on (fun t k => XS.iloadN X17.here hx rfl (hb hby at_18) rfl k) ?_
              show Goes p e below QQ (T17.setTop (mkF m 19 #[iv p1, iv 5, rv x5, iv 99, .unset, .unset] [(.int 99)]))
              refine Goes.on (fun t k => XS.bipush X17.here hx rfl (hb hby at_19) k) ?_
              show Goes p e below QQ (T17.setTop (mkF m 21 #[iv p1, iv 5, rv x5, iv 99, .unset, .unset] [(.int 97), (.int 99)]))
              refine Goes.on (fun t k => XS.icmpNo X17.here hx rfl (hb hby at_21) rfl (feq (by decide)).1 k) ?_
              show Goes p e below QQ (T17.setTop (mkF m 24 #[iv p1, iv 5, rv x5, iv 99, .unset, .unset] []))
              refine Goes.on (fun t k => XS.iloadN X17.here hx rfl (hb hby at_24) rfl k) ?_
              show Goes p e below QQ (T17.setTop (mkF m 25 #[iv p1, iv 5, rv x5, iv 99, .unset, .unset] [(.int 99)]))
              refine Goes.on (fun t k => XS.bipush X17.here hx rfl (hb hby at_25) k) ?_
              show Goes p e below QQ (T17.setTop (mkF m 27 #[iv p1, iv 5, rv x5, iv 99, .unset, .unset] [(.int 98), (.int 99)]))
              refine Goes.on (fun t k => XS.icmpNo X17.here hx rfl (hb hby at_27) rfl (feq (by decide)).1 k) ?_
              show Goes p e below QQ (T17.setTop (mkF m 30 #[iv p1, iv 5, rv x5, iv 99, .unset, .unset] []))
              refine Goes.on (fun t k => XS.iloadN X17.here hx rfl (hb hby at_30) rfl k) ?_
              show Goes p e below QQ (T17.setTop (mkF m 31 #[iv p1, iv 5, rv x5, iv 99, .unset, .unset] [(.int 99)]))
              refine Goes.on (fun t k => XS.bipush X17.here hx rfl (hb hby at_31) k) ?_
              show Goes p e below QQ (T17.setTop (mkF m 33 #[iv p1, iv 5, rv x5, iv 99, .unset, .unset] [(.int 99), (.int 99)]))
              refine Goes.on (fun t k => XS.icmpYes X17.here hx rfl (pc0 := 33) (pc' := 42) rfl (hb hby at_33) rfl (teq (by decide)).1 (by decide) (by decide) k) ?_
              show Goes p e below QQ (T17.setTop (mkF m 42 #[iv p1, iv 5, rv x5, iv 99, .unset, .unset] []))
              refine Goes.on (fun t k => XS.iconst X17.here hx rfl (hb hby at_42) k) ?_
              show Goes p e below QQ (T17.setTop (mkF m 43 #[iv p1, iv 5, rv x5, iv 99, .unset, .unset] [(.int 1)]))
              refine Goes.on (fun t k => XS.goto X17.here hx rfl (pc0 := 43) (pc' := 47) rfl (hb hby at_43) (by decide) (by decide) k) ?_
              show Goes p e below QQ (T17.setTop (mkF m 47 #[iv p1, iv 5, rv x5, iv 99, .unset, .unset] [(.int 1)]))
              refine Goes.on (fun t k => XS.istore X17.here hx rfl (hb hby at_47) rfl (l' := #[iv p1, iv 5, rv x5, iv 99, iv 1, .unset]) rfl k) ?_
              show Goes p e below QQ (T17.setTop (mkF m 49 #[iv p1, iv 5, rv x5, iv 99, iv 1, .unset] []))
              refine Goes.on (fun t k => XS.iloadN X17.here hx rfl (hb hby at_49) rfl k) ?_
              show Goes p e below QQ (T17.setTop (mkF m 50 #[iv p1, iv 5, rv x5, iv 99, iv 1, .unset] [(.int 5)]))
              refine Goes.on (fun t k => XS.iconst X17.here hx rfl (hb hby at_50) k) ?_
              show Goes p e below QQ (T17.setTop (mkF m 51 #[iv p1, iv 5, rv x5, iv 99, iv 1, .unset] [(.int 3), (.int 5)]))
              refine Goes.on (fun t k => XS.icmpNo X17.here hx rfl (hb hby at_51) rfl (flt (by decide)).1 k) ?_
              show Goes p e below QQ (T17.setTop (mkF m 54 #[iv p1, iv 5, rv x5, iv 99, iv 1, .unset] []))
              refine Goes.on (fun t k => XS.iconst X17.here hx rfl (hb hby at_54) k) ?_
              show Goes p e below QQ (T17.setTop (mkF m 55 #[iv p1, iv 5, rv x5, iv 99, iv 1, .unset] [(.int 1)]))
              refine Goes.on (fun t k => XS.goto X17.here hx rfl (pc0 := 55) (pc' := 59) rfl (hb hby at_55) (by decide) (by decide) k) ?_
              show Goes p e below QQ (T17.setTop (mkF m 59 #[iv p1, iv 5, rv x5, iv 99, iv 1, .unset] [(.int 1)]))
              refine Goes.on (fun t k => XS.istore X17.here hx rfl (hb hby at_59) rfl (l' := #[iv p1, iv 5, rv x5, iv 99, iv 1, iv 1]) rfl k) ?_
              show Goes p e below QQ (T17.setTop (mkF m 61 #[iv p1, iv 5, rv x5, iv 99, iv 1, iv 1] []))
              refine Goes.on (fun t k => XS.aloadN X17.here hx rfl (hb hby at_61) rfl rfl k) ?_
              show Goes p e below QQ (T17.setTop (mkF m 62 #[iv p1, iv 5, rv x5, iv 99, iv 1, iv 1] [(.ref x5)]))
              obtain ⟨cq18, kq18, q18a, q18b, q18c⟩ := isOf hZ e17 E_x5
              obtain ⟨_, _, ⟨T18, L18, k18, n18⟩, -, X18, ⟨Lc18, hQ18, l18, y18, z18⟩, st18⟩ := X17.virtualBack hx (y := (⟨"com/example/lendgate/lendgate/policy/Criterium", "isPlace", "()Z"⟩ : MethodName)) (z := (⟨"com/example/lendgate/lendgate/policy/Criterium", "isPlace", "()Z"⟩ : MethodName)) hown (mvT hZ (hw _ (List.mem_of_getElem? (i := 15) rfl))) (mvT hZ (hw _ (List.mem_of_getElem? (i := 16) rfl))) (notFace_of_selects (args := #[]) (mvT hZ (hw _ (List.mem_of_getElem? (i := 18) rfl)))) (mvT hZ (hw _ (List.mem_of_getElem? (i := 18) rfl))) (mvT hZ (hw _ (List.mem_of_getElem? (i := 17) rfl))) (by decide) (backOf (W := 0) (rm4_5 l Z a0 hw [] x5 h0 n0 (Nat.le_trans Z0 K0.1) E_x5 F_ordinal_x5) hZ (hw _ (List.mem_of_getElem? (i := 19) rfl)) (hw _ (List.mem_of_getElem? (i := 6) rfl)) (by decide) (by decide)) q18a q18c (g := (mkF m 62 #[iv p1, iv 5, rv x5, iv 99, iv 1, iv 1] [(.ref x5)])) rfl (by rw [hml]; rfl) (Steps.refl _) (argsL := []) (rest := []) (lenOf pd_3 rfl) rfl (by show 2 * 0 + _ ≤ _; exact Nat.le_of_eq rfl) (hb hby at_62) (fun _ _ => ⟨rfl, e17, (by decide : 0 + 0 ≤ _), (by decide : 0 + 0 ≤ _)⟩)
              dsimp only [Pt.U, Pt.locs, Pt.cells, Pt.slots] at X18 l18 y18 z18 st18 hQ18
              subst l18 y18 z18
              obtain ⟨rfl, M18, e18⟩ := hQ18
              have N18 := Fr.app N17 M18
              refine Goes.on (fun t k => st18.trans k) ?_
              show Goes p e below QQ (T18.setTop (mkF m 65 #[iv p1, iv 5, rv x5, iv 99, iv 1, iv 1] [(.int 1)]))
              refine Goes.on (fun t k => XS.iload X18.here hx rfl (hb hby at_65) rfl k) ?_
              show Goes p e below QQ (T18.setTop (mkF m 67 #[iv p1, iv 5, rv x5, iv 99, iv 1, iv 1] [(.int 1), (.int 1)]))
              refine Goes.on (fun t k => XS.icmpNo X18.here hx rfl (hb hby at_67) rfl (teq (by decide)).2 k) ?_
              show Goes p e below QQ (T18.setTop (mkF m 70 #[iv p1, iv 5, rv x5, iv 99, iv 1, iv 1] []))
              refine Goes.on (fun t k => XS.iload X18.here hx rfl (hb hby at_70) rfl k) ?_
              show Goes p e below QQ (T18.setTop (mkF m 72 #[iv p1, iv 5, rv x5, iv 99, iv 1, iv 1] [(.int 1)]))
              refine Goes.on (fun t k => XS.iload X18.here hx rfl (hb hby at_72) rfl k) ?_
              show Goes p e below QQ (T18.setTop (mkF m 74 #[iv p1, iv 5, rv x5, iv 99, iv 1, iv 1] [(.int 1), (.int 1)]))
              refine Goes.on (fun t k => XS.icmpNo X18.here hx rfl (hb hby at_74) rfl (teq (by decide)).2 k) ?_
              show Goes p e below QQ (T18.setTop (mkF m 77 #[iv p1, iv 5, rv x5, iv 99, iv 1, iv 1] []))
              refine Goes.on (fun t k => XS.iconst X18.here hx rfl (hb hby at_77) k) ?_
              show Goes p e below QQ (T18.setTop (mkF m 78 #[iv p1, iv 5, rv x5, iv 99, iv 1, iv 1] [(.int 1)]))
              refine Goes.on (fun t k => XS.goto X18.here hx rfl (pc0 := 78) (pc' := 82) rfl (hb hby at_78) (by decide) (by decide) k) ?_
              show Goes p e below QQ (T18.setTop (mkF m 82 #[iv p1, iv 5, rv x5, iv 99, iv 1, iv 1] [(.int 1)]))
              exact Goes.rN X18 hx (t := .boolean) hret (by simp) hlk (hb hby at_82) hQQ ⟨rfl, N18⟩ (by decide) (by decide)
            · rw [own_seven p1 hi0 hi1 hi2 hi3 hi4 hi5]
              show Goes p e below QQ (s₁.setTop (mkF m 8 #[iv p1, iv 6, .unset, .unset, .unset, .unset] []))
              refine Goes.on (fun t k => XS.iloadN X0.here hx rfl (hb hby at_8) rfl k) ?_
              show Goes p e below QQ (s₁.setTop (mkF m 9 #[iv p1, iv 6, .unset, .unset, .unset, .unset] [(.int 6)]))
              obtain ⟨_, _, ⟨T19, L19, k19, n19⟩, -, X19, ⟨Lc19, hQ19, l19, y19, z19⟩, st19⟩ := Jvm.LawKit.callS X0 hx (y := (⟨"com/example/lendgate/lendgate/policy/CriteriumIsPlacePinLaw", "pick", "(I)Lcom/example/lendgate/lendgate/policy/Criterium;"⟩ : MethodName)) hown (mvT hZ (hw _ (List.mem_of_getElem? (i := 1) rfl))) (mvT hZ (hw _ (List.mem_of_getElem? (i := 2) rfl))) (mvT hZ (hw _ (List.mem_of_getElem? (i := 3) rfl))) (mvT hZ (hw _ (List.mem_of_getElem? (i := 4) rfl))) (by decide) (backOf (W := 0) (rm1 l Z a0 hw [] (6 : Int32) x0 x1 x2 x3 x4 x5 x6 h0 n0 (Nat.le_trans Z0 K0.1) S_PATRON_GROUP S_MATERIAL_TYPE S_LOAN_TYPE S_INSTITUTION S_CAMPUS S_LIBRARY S_LOCATION O_0) hZ (hw _ (List.mem_of_getElem? (i := 4) rfl)) (hw _ (List.mem_of_getElem? (i := 3) rfl)) (by decide) (by decide)) (g := (mkF m 9 #[iv p1, iv 6, .unset, .unset, .unset, .unset] [(.int 6)])) rfl (by rw [hml]; rfl) (argsL := [(.int 6)]) (rest := []) (lenOf pd_1 rfl) rfl (by show 2 * 0 + _ ≤ _; exact Nat.le_of_eq rfl) (hb hby at_9) (fun _ _ => ⟨rfl, e0, (by decide : 0 + 0 ≤ _), (by decide : 0 + 0 ≤ _)⟩)
              dsimp only [Pt.U, Pt.locs, Pt.cells, Pt.slots] at X19 l19 y19 z19 st19 hQ19
              subst l19 y19 z19
              obtain ⟨rfl, M19, e19⟩ := hQ19
              have N19 := Fr.app N0 M19
              refine Goes.on (fun t k => st19 _ k) ?_
              show Goes p e below QQ (T19.setTop (mkF m 12 #[iv p1, iv 6, .unset, .unset, .unset, .unset] [(.ref (pickA (6 : Int32) x0 x1 x2 x3 x4 x5 x6))]))
              rw [(show (pickA (6 : Int32) x0 x1 x2 x3 x4 x5 x6) = x6 from ((if_neg (by decide)).trans ((if_neg (by decide)).trans ((if_neg (by decide)).trans ((if_neg (by decide)).trans ((if_neg (by decide)).trans ((if_neg (by decide)).trans rfl)))))))]
              show Goes p e below QQ (T19.setTop (mkF m 12 #[iv p1, iv 6, .unset, .unset, .unset, .unset] [(.ref x6)]))
              refine Goes.on (fun t k => XS.astoreN X19.here hx rfl (hb hby at_12) rfl rfl (l' := #[iv p1, iv 6, rv x6, .unset, .unset, .unset]) rfl k) ?_
              show Goes p e below QQ (T19.setTop (mkF m 13 #[iv p1, iv 6, rv x6, .unset, .unset, .unset] []))
              refine Goes.on (fun t k => XS.aloadN X19.here hx rfl (hb hby at_13) rfl rfl k) ?_
              show Goes p e below QQ (T19.setTop (mkF m 14 #[iv p1, iv 6, rv x6, .unset, .unset, .unset] [(.ref x6)]))
              obtain ⟨cq20, kq20, q20a, q20b, q20c⟩ := isOf hZ e19 E_x6
              obtain ⟨_, _, ⟨T20, L20, k20, n20⟩, -, X20, ⟨Lc20, hQ20, l20, y20, z20⟩, st20⟩ := X19.virtualBack hx (y := (⟨"com/example/lendgate/lendgate/policy/Criterium", "letter", "()C"⟩ : MethodName)) (z := (⟨"com/example/lendgate/lendgate/policy/Criterium", "letter", "()C"⟩ : MethodName)) hown (mvT hZ (hw _ (List.mem_of_getElem? (i := 8) rfl))) (mvT hZ (hw _ (List.mem_of_getElem? (i := 9) rfl))) (notFace_of_selects (args := #[]) (mvT hZ (hw _ (List.mem_of_getElem? (i := 11) rfl)))) (mvT hZ (hw _ (List.mem_of_getElem? (i := 11) rfl))) (mvT hZ (hw _ (List.mem_of_getElem? (i := 10) rfl))) (by decide) (backOf (W := 0) (rm2 l Z a0 hw [] x6 (115 : Int32) h0 n0 (Nat.le_trans Z0 K0.1) F_letter_x6 rfl) hZ (hw _ (List.mem_of_getElem? (i := 12) rfl)) (hw _ (List.mem_of_getElem? (i := 6) rfl)) (by decide) (by decide)) q20a q20c (g := (mkF m 14 #[iv p1, iv 6, rv x6, .unset, .unset, .unset] [(.ref x6)])) rfl (by rw [hml]; rfl) (Steps.refl _) (argsL := []) (rest := []) (lenOf pd_2 rfl) rfl (by show 2 * 0 + _ ≤ _; exact Nat.le_of_eq rfl) (hb hby at_14) (fun _ _ => ⟨rfl, e19, (by decide : 0 + 0 ≤ _), (by decide : 0 + 0 ≤ _)⟩)
              dsimp only [Pt.U, Pt.locs, Pt.cells, Pt.slots] at X20 l20 y20 z20 st20 hQ20
              subst l20 y20 z20
              obtain ⟨rfl, M20, e20⟩ := hQ20
              have N20 := Fr.app N19 M20
              refine Goes.on (fun t k => st20.trans k) ?_
              show Goes p e below QQ (T20.setTop (mkF m 17 #[iv p1, iv 6, rv x6, .unset, .unset, .unset] [(.int 115)]))
              refine Goes.on (fun t k => XS.istoreN X20.here hx rfl (hb hby at_17) rfl (l' := #[iv p1, iv 6, rv x6, iv 115, .unset, .unset]) rfl k) ?_
              show Goes p e below QQ (T20.setTop (mkF m 18 #[iv p1, iv 6, rv x6, iv 115, .unset, .unset] []))
              refine Goes.on (fun t k => XS.iloadN X20.here hx rfl (hb hby at_18) rfl k) ?_
              show Goes p e below QQ (T20.setTop (mkF m 19 #[iv p1, iv 6, rv x6, iv 115, .unset, .unset] [(.int 115)]))
              refine Goes.on (fun t k => XS.bipush X20.here hx rfl (hb hby at_19) k) ?_
              show Goes p e below QQ (T20.setTop (mkF m 21 #[iv p1, iv 6, rv x6, iv 115, .unset, .unset] [(.int 97), (.int 115)]))
              refine Goes.on (fun t k => XS.icmpNo X20.here hx rfl (hb hby at_21) rfl (feq (by decide)).1 k) ?_
              show Goes p e below QQ (T20.setTop (mkF m 24 #[iv p1, iv 6, rv x6, iv 115, .unset, .unset] []))
              refine Goes.on (fun t k => XS.iloadN X20.here hx rfl (hb hby at_24) rfl k) ?_
              show Goes p e below QQ (T20.setTop (mkF m 25 #[iv p1, iv 6, rv x6, iv 115, .unset, .unset] [(.int 115)]))
              refine Goes.on (fun t k => XS.bipush X20.here hx rfl (hb hby at_25) k) ?_
              show Goes p e below QQ (T20.setTop (mkF m 27 #[iv p1, iv 6, rv x6, iv 115, .unset, .unset] [(.int 98), (.int 115)]))
              refine Goes.on (fun t k => XS.icmpNo X20.here hx rfl (hb hby at_27) rfl (feq (by decide)).1 k) ?_
              show Goes p e below QQ (T20.setTop (mkF m 30 #[iv p1, iv 6, rv x6, iv 115, .unset, .unset] []))
              refine Goes.on (fun t k => XS.iloadN X20.here hx rfl (hb hby at_30) rfl k) ?_
              show Goes p e below QQ (T20.setTop (mkF m 31 #[iv p1, iv 6, rv x6, iv 115, .unset, .unset] [(.int 115)]))
              refine Goes.on (fun t k => XS.bipush X20.here hx rfl (hb hby at_31) k) ?_
              show Goes p e below QQ (T20.setTop (mkF m 33 #[iv p1, iv 6, rv x6, iv 115, .unset, .unset] [(.int 99), (.int 115)]))
              refine Goes.on (fun t k => XS.icmpNo X20.here hx rfl (hb hby at_33) rfl (feq (by decide)).1 k) ?_
              show Goes p e below QQ (T20.setTop (mkF m 36 #[iv p1, iv 6, rv x6, iv 115, .unset, .unset] []))
              refine Goes.on (fun t k => XS.iloadN X20.here hx rfl (hb hby at_36) rfl k) ?_
              show Goes p e below QQ (T20.setTop (mkF m 37 #[iv p1, iv 6, rv x6, iv 115, .unset, .unset] [(.int 115)]))
              refine Goes.on (fun t k => XS.bipush X20.here hx rfl (hb hby at_37) k) ?_
              show Goes p e below QQ (T20.setTop (mkF m 39 #[iv p1, iv 6, rv x6, iv 115, .unset, .unset] [(.int 115), (.int 115)]))
              refine Goes.on (fun t k => XS.icmpNo X20.here hx rfl (hb hby at_39) rfl (teq (by decide)).2 k) ?_
              show Goes p e below QQ (T20.setTop (mkF m 42 #[iv p1, iv 6, rv x6, iv 115, .unset, .unset] []))
              refine Goes.on (fun t k => XS.iconst X20.here hx rfl (hb hby at_42) k) ?_
              show Goes p e below QQ (T20.setTop (mkF m 43 #[iv p1, iv 6, rv x6, iv 115, .unset, .unset] [(.int 1)]))
              refine Goes.on (fun t k => XS.goto X20.here hx rfl (pc0 := 43) (pc' := 47) rfl (hb hby at_43) (by decide) (by decide) k) ?_
              show Goes p e below QQ (T20.setTop (mkF m 47 #[iv p1, iv 6, rv x6, iv 115, .unset, .unset] [(.int 1)]))
              refine Goes.on (fun t k => XS.istore X20.here hx rfl (hb hby at_47) rfl (l' := #[iv p1, iv 6, rv x6, iv 115, iv 1, .unset]) rfl k) ?_
              show Goes p e below QQ (T20.setTop (mkF m 49 #[iv p1, iv 6, rv x6, iv 115, iv 1, .unset] []))
              refine Goes.on (fun t k => XS.iloadN X20.here hx rfl (hb hby at_49) rfl k) ?_
              show Goes p e below QQ (T20.setTop (mkF m 50 #[iv p1, iv 6, rv x6, iv 115, iv 1, .unset] [(.int 6)]))
              refine Goes.on (fun t k => XS.iconst X20.here hx rfl (hb hby at_50) k) ?_
              show Goes p e below QQ (T20.setTop (mkF m 51 #[iv p1, iv 6, rv x6, iv 115, iv 1, .unset] [(.int 3), (.int 6)]))
              refine Goes.on (fun t k => XS.icmpNo X20.here hx rfl (hb hby at_51) rfl (flt (by decide)).1 k) ?_
              show Goes p e below QQ (T20.setTop (mkF m 54 #[iv p1, iv 6, rv x6, iv 115, iv 1, .unset] []))
              refine Goes.on (fun t k => XS.iconst X20.here hx rfl (hb hby at_54) k) ?_
              show Goes p e below QQ (T20.setTop (mkF m 55 #[iv p1, iv 6, rv x6, iv 115, iv 1, .unset] [(.int 1)]))
              refine Goes.on (fun t k => XS.goto X20.here hx rfl (pc0 := 55) (pc' := 59) rfl (hb hby at_55) (by decide) (by decide) k) ?_
              show Goes p e below QQ (T20.setTop (mkF m 59 #[iv p1, iv 6, rv x6, iv 115, iv 1, .unset] [(.int 1)]))
              refine Goes.on (fun t k => XS.istore X20.here hx rfl (hb hby at_59) rfl (l' := #[iv p1, iv 6, rv x6, iv 115, iv 1, iv 1]) rfl k) ?_
              show Goes p e below QQ (T20.setTop (mkF m 61 #[iv p1, iv 6, rv x6, iv 115, iv 1, iv 1] []))
              refine Goes.on (fun t k => XS.aloadN X20.here hx rfl (hb hby at_61) rfl rfl k) ?_
              show Goes p e below QQ (T20.setTop (mkF m 62 #[iv p1, iv 6, rv x6, iv 115, iv 1, iv 1] [(.ref x6)]))
              obtain ⟨cq21, kq21, q21a, q21b, q21c⟩ := isOf hZ e20 E_x6
              obtain ⟨_, _, ⟨T21, L21, k21, n21⟩, -, X21, ⟨Lc21, hQ21, l21, y21, z21⟩, st21⟩ := X20.virtualBack hx (y := (⟨"com/example/lendgate/lendgate/policy/Criterium", "isPlace", "()Z"⟩ : MethodName)) (z := (⟨"com/example/lendgate/lendgate/policy/Criterium", "isPlace", "()Z"⟩ : MethodName)) hown (mvT hZ (hw _ (List.mem_of_getElem? (i := 15) rfl))) (mvT hZ (hw _ (List.mem_of_getElem? (i := 16) rfl))) (notFace_of_selects (args := #[]) (mvT hZ (hw _ (List.mem_of_getElem? (i := 18) rfl)))) (mvT hZ (hw _ (List.mem_of_getElem? (i := 18) rfl))) (mvT hZ (hw _ (List.mem_of_getElem? (i := 17) rfl))) (by decide) (backOf (W := 0) (rm4_6 l Z a0 hw [] x6 h0 n0 (Nat.le_trans Z0 K0.1) E_x6 F_ordinal_x6) hZ (hw _ (List.mem_of_getElem? (i := 19) rfl)) (hw _ (List.mem_of_getElem? (i := 6) rfl)) (by decide) (by decide)) q21a q21c (g := (mkF m 62 #[iv p1, iv 6, rv x6, iv 115, iv 1, iv 1] [(.ref x6)])) rfl (by rw [hml]; rfl) (Steps.refl _) (argsL := []) (rest := []) (lenOf pd_3 rfl) rfl (by show 2 * 0 + _ ≤ _; exact Nat.le_of_eq rfl) (hb hby at_62) (fun _ _ => ⟨rfl, e20, (by decide : 0 + 0 ≤ _), (by decide : 0 + 0 ≤ _)⟩)
              dsimp only [Pt.U, Pt.locs, Pt.cells, Pt.slots] at X21 l21 y21 z21 st21 hQ21
              subst l21 y21 z21
              obtain ⟨rfl, M21, e21⟩ := hQ21
              have N21 := Fr.app N20 M21
              refine Goes.on (fun t k => st21.trans k) ?_
              show Goes p e below QQ (T21.setTop (mkF m 65 #[iv p1, iv 6, rv x6, iv 115, iv 1, iv 1] [(.int 1)]))
              refine Goes.on (fun t k => XS.iload X21.here hx rfl (hb hby at_65) rfl k) ?_
              show Goes p e below QQ (T21.setTop (mkF m 67 #[iv p1, iv 6, rv x6, iv 115, iv 1, iv 1] [(.int 1), (.int 1)]))
              refine Goes.on (fun t k => XS.icmpNo X21.here hx rfl (hb hby at_67) rfl (teq (by decide)).2 k) ?_
              show Goes p e below QQ (T21.setTop (mkF m 70 #[iv p1, iv 6, rv x6, iv 115, iv 1, iv 1] []))
              refine Goes.on (fun t k => XS.iload X21.here hx rfl (hb hby at_70) rfl k) ?_
              show Goes p e below QQ (T21.setTop (mkF m 72 #[iv p1, iv 6, rv x6, iv 115, iv 1, iv 1] [(.int 1)]))
              refine Goes.on (fun t k => XS.iload X21.here hx rfl (hb hby at_72) rfl k) ?_
              show Goes p e below QQ (T21.setTop (mkF m 74 #[iv p1, iv 6, rv x6, iv 115, iv 1, iv 1] [(.int 1), (.int 1)]))
              refine Goes.on (fun t k => XS.icmpNo X21.here hx rfl (hb hby at_74) rfl (teq (by decide)).2 k) ?_
              show Goes p e below QQ (T21.setTop (mkF m 77 #[iv p1, iv 6, rv x6, iv 115, iv 1, iv 1] []))
              refine Goes.on (fun t k => XS.iconst X21.here hx rfl (hb hby at_77) k) ?_
              show Goes p e below QQ (T21.setTop (mkF m 78 #[iv p1, iv 6, rv x6, iv 115, iv 1, iv 1] [(.int 1)]))
              refine Goes.on (fun t k => XS.goto X21.here hx rfl (pc0 := 78) (pc' := 82) rfl (hb hby at_78) (by decide) (by decide) k) ?_
              show Goes p e below QQ (T21.setTop (mkF m 82 #[iv p1, iv 6, rv x6, iv 115, iv 1, iv 1] [(.int 1)]))
              exact Goes.rN X21 hx (t := .boolean) hret (by simp) hlk (hb hby at_82) hQQ ⟨rfl, N21⟩ (by decide) (by decide)
set_option maxRecDepth 65536 in
set_option maxHeartbeats 40000000 in
theorem comes_1 {Post : Tables → Env → Array Value → State → Outcome → State → Prop} (hpost : ∀ tb e args s v u, (limb_1_1.after args s (.returned v) u = true ∧ limb_1_2.after args s (.returned v) u = true ∧ True) → FrameEnd s (.returned v) u (Jvm.fieldLocs frame_1_writes args s ++ Jvm.arrayLocs frame_1_arrays args s ++ Jvm.staticLocs frame_1_statics s) 0 0 → Post tb e args s (.returned v) u) :
    ArmFor flags0 classFile x code maxLocals ret World_1 tables_1 room_1 Calls_1 rest_1 Pre_1 Post := by
  intro l hfl _ _ p e ha hc hk s m args below hf hA hF happ hP
  obtain ⟨hcalls, hrest, hpre⟩ := hP
  obtain ⟨-, -, -, hnamed, -, -, -, hat⟩ := (Spec.applies_iff hf).mp happ
  obtain ⟨hg, hn⟩ := and_e (Cond.before_iff.mp (show (Jvm.Cond.and given_1 narrow_1).before args s = true from hpre))
  obtain ⟨hg0, hg1⟩ := and_e hg
  obtain ⟨w0, rfl⟩ : ∃ w0 : Value, args = #[w0] := by
    have hs : args.size = 1 := by simpa [Cond.value, given_1] using hg0
    obtain ⟨L⟩ := args
    match L, hs with
    | [w0], _ => exact ⟨w0, rfl⟩
  have hw := fun d (hd : d ∈ tables_1) => atoms_spec (ws := Jvm.Cond.code x code maxLocals ret :: tables_1) hat d (List.mem_cons_of_mem _ hd)
  have hfit : Fit s := fun {y c} hc i hi => by
    obtain ⟨ha, rfl⟩ := Array.getElem?_eq_some_iff.mp hc
    have q := List.all_eq_true.mp ((Array.all_eq_true_iff_forall_mem.mp hF) _ (Array.getElem_mem ha)) i (List.mem_range.mpr hi)
    simpa [Array.getElem?_eq_getElem hi] using q
  obtain ⟨i0, ei0⟩ := is_v hg1
  obtain rfl : w0 = (.int i0) := Option.some.inj ei0
  obtain ⟨nc0, nr0⟩ := and_e hn
  obtain ⟨nc1, nr1⟩ := and_e nr0
  obtain ⟨nc2, nr2⟩ := and_e nr1
  obtain ⟨nc3, nr3⟩ := and_e nr2
  obtain ⟨nc4, nr4⟩ := and_e nr3
  obtain ⟨nc5, nr5⟩ := and_e nr4
  obtain ⟨nc6, nr6⟩ := and_e nr5
  obtain ⟨nc7, nr7⟩ := and_e nr6
  obtain ⟨nc8, nr8⟩ := and_e nr7
  obtain ⟨nc9, nr9⟩ := and_e nr8
  obtain ⟨nc10, nr10⟩ := and_e nr9
  obtain ⟨nc11, nr11⟩ := and_e nr10
  obtain ⟨nc12, nr12⟩ := and_e nr11
  obtain ⟨nc13, nr13⟩ := and_e nr12
  obtain ⟨nc14, nr14⟩ := and_e nr13
  obtain ⟨nc15, nr15⟩ := and_e nr14
  obtain ⟨nc16, nr16⟩ := and_e nr15
  obtain ⟨nc17, nr17⟩ := and_e nr16
  obtain ⟨nc18, nr18⟩ := and_e nr17
  obtain ⟨nc19, nr19⟩ := and_e nr18
  have nc20 := nr19
  obtain ⟨x_PATRON_GROUP, ev_PATRON_GROUP⟩ := exa_v nc0
  have EX_PATRON_GROUP := Exa.start ev_PATRON_GROUP nc0
  have ST_PATRON_GROUP : Sta s s.heap "com/example/lendgate/lendgate/policy/Criterium" "PATRON_GROUP" "Lcom/example/lendgate/lendgate/policy/Criterium;" (.ref x_PATRON_GROUP) := Sta.start ev_PATRON_GROUP (Or.inr ⟨(hw _ (List.mem_of_getElem? (i := 6) rfl)), (hw _ (List.mem_of_getElem? (i := 7) rfl))⟩)
  obtain ⟨x_INSTITUTION, ev_INSTITUTION⟩ := exa_v nc3
  have EX_INSTITUTION := Exa.start ev_INSTITUTION nc3
  have ST_INSTITUTION : Sta s s.heap "com/example/lendgate/lendgate/policy/Criterium" "INSTITUTION" "Lcom/example/lendgate/lendgate/policy/Criterium;" (.ref x_INSTITUTION) := Sta.start ev_INSTITUTION (Or.inr ⟨(hw _ (List.mem_of_getElem? (i := 6) rfl)), (hw _ (List.mem_of_getElem? (i := 30) rfl))⟩)
  obtain ⟨x_LIBRARY, ev_LIBRARY⟩ := exa_v nc6
  have EX_LIBRARY := Exa.start ev_LIBRARY nc6
  have ST_LIBRARY : Sta s s.heap "com/example/lendgate/lendgate/policy/Criterium" "LIBRARY" "Lcom/example/lendgate/lendgate/policy/Criterium;" (.ref x_LIBRARY) := Sta.start ev_LIBRARY (Or.inr ⟨(hw _ (List.mem_of_getElem? (i := 6) rfl)), (hw _ (List.mem_of_getElem? (i := 32) rfl))⟩)
  obtain ⟨x_LOCATION, ev_LOCATION⟩ := exa_v nc9
  have EX_LOCATION := Exa.start ev_LOCATION nc9
  have ST_LOCATION : Sta s s.heap "com/example/lendgate/lendgate/policy/Criterium" "LOCATION" "Lcom/example/lendgate/lendgate/policy/Criterium;" (.ref x_LOCATION) := Sta.start ev_LOCATION (Or.inr ⟨(hw _ (List.mem_of_getElem? (i := 6) rfl)), (hw _ (List.mem_of_getElem? (i := 34) rfl))⟩)
  obtain ⟨x_CAMPUS, ev_CAMPUS⟩ := exa_v nc12
  have EX_CAMPUS := Exa.start ev_CAMPUS nc12
  have ST_CAMPUS : Sta s s.heap "com/example/lendgate/lendgate/policy/Criterium" "CAMPUS" "Lcom/example/lendgate/lendgate/policy/Criterium;" (.ref x_CAMPUS) := Sta.start ev_CAMPUS (Or.inr ⟨(hw _ (List.mem_of_getElem? (i := 6) rfl)), (hw _ (List.mem_of_getElem? (i := 36) rfl))⟩)
  obtain ⟨x_LOAN_TYPE, ev_LOAN_TYPE⟩ := exa_v nc15
  have EX_LOAN_TYPE := Exa.start ev_LOAN_TYPE nc15
  have ST_LOAN_TYPE : Sta s s.heap "com/example/lendgate/lendgate/policy/Criterium" "LOAN_TYPE" "Lcom/example/lendgate/lendgate/policy/Criterium;" (.ref x_LOAN_TYPE) := Sta.start ev_LOAN_TYPE (Or.inr ⟨(hw _ (List.mem_of_getElem? (i := 6) rfl)), (hw _ (List.mem_of_getElem? (i := 38) rfl))⟩)
  obtain ⟨x_MATERIAL_TYPE, ev_MATERIAL_TYPE⟩ := exa_v nc18
  have EX_MATERIAL_TYPE := Exa.start ev_MATERIAL_TYPE nc18
  have ST_MATERIAL_TYPE : Sta s s.heap "com/example/lendgate/lendgate/policy/Criterium" "MATERIAL_TYPE" "Lcom/example/lendgate/lendgate/policy/Criterium;" (.ref x_MATERIAL_TYPE) := Sta.start ev_MATERIAL_TYPE (Or.inr ⟨(hw _ (List.mem_of_getElem? (i := 6) rfl)), (hw _ (List.mem_of_getElem? (i := 40) rfl))⟩)
  have FL_PATRON_GROUP_letter : Fld s s.heap x_PATRON_GROUP "com/example/lendgate/lendgate/policy/Criterium" "letter" "C" (.int (103 : Int32)) := own_fldI ev_PATRON_GROUP nc1
  have FL_PATRON_GROUP_ordinal : Fld s s.heap x_PATRON_GROUP "java/lang/Enum" "ordinal" "I" (.int (0 : Int32)) := own_fldI ev_PATRON_GROUP nc2
  have FL_INSTITUTION_letter : Fld s s.heap x_INSTITUTION "com/example/lendgate/lendgate/policy/Criterium" "letter" "C" (.int (97 : Int32)) := own_fldI ev_INSTITUTION nc4
  have FL_INSTITUTION_ordinal : Fld s s.heap x_INSTITUTION "java/lang/Enum" "ordinal" "I" (.int (3 : Int32)) := own_fldI ev_INSTITUTION nc5
  have FL_LIBRARY_letter : Fld s s.heap x_LIBRARY "com/example/lendgate/lendgate/policy/Criterium" "letter" "C" (.int (99 : Int32)) := own_fldI ev_LIBRARY nc7
  have FL_LIBRARY_ordinal : Fld s s.heap x_LIBRARY "java/lang/Enum" "ordinal" "I" (.int (5 : Int32)) := own_fldI ev_LIBRARY nc8
  have FL_LOCATION_letter : Fld s s.heap x_LOCATION "com/example/lendgate/lendgate/policy/Criterium" "letter" "C" (.int (115 : Int32)) := own_fldI ev_LOCATION nc10
  have FL_LOCATION_ordinal : Fld s s.heap x_LOCATION "java/lang/Enum" "ordinal" "I" (.int (6 : Int32)) := own_fldI ev_LOCATION nc11
  have FL_CAMPUS_letter : Fld s s.heap x_CAMPUS "com/example/lendgate/lendgate/policy/Criterium" "letter" "C" (.int (98 : Int32)) := own_fldI ev_CAMPUS nc13
  have FL_CAMPUS_ordinal : Fld s s.heap x_CAMPUS "java/lang/Enum" "ordinal" "I" (.int (4 : Int32)) := own_fldI ev_CAMPUS nc14
  have FL_LOAN_TYPE_letter : Fld s s.heap x_LOAN_TYPE "com/example/lendgate/lendgate/policy/Criterium" "letter" "C" (.int (116 : Int32)) := own_fldI ev_LOAN_TYPE nc16
  have FL_LOAN_TYPE_ordinal : Fld s s.heap x_LOAN_TYPE "java/lang/Enum" "ordinal" "I" (.int (2 : Int32)) := own_fldI ev_LOAN_TYPE nc17
  have FL_MATERIAL_TYPE_letter : Fld s s.heap x_MATERIAL_TYPE "com/example/lendgate/lendgate/policy/Criterium" "letter" "C" (.int (109 : Int32)) := own_fldI ev_MATERIAL_TYPE nc19
  have FL_MATERIAL_TYPE_ordinal : Fld s s.heap x_MATERIAL_TYPE "java/lang/Enum" "ordinal" "I" (.int (1 : Int32)) := own_fldI ev_MATERIAL_TYPE nc20
  obtain ⟨n, o, h1, h2, h3, _, L, rfl, ⟨rfl, N⟩, hq⟩ := rm0 l s _ hw tables_1 i0 x_PATRON_GROUP x_MATERIAL_TYPE x_LOAN_TYPE x_INSTITUTION x_CAMPUS x_LIBRARY x_LOCATION s.heap s.heap.size (Nat.le_refl _) ST_PATRON_GROUP EX_PATRON_GROUP FL_PATRON_GROUP_letter FL_PATRON_GROUP_ordinal ST_MATERIAL_TYPE EX_MATERIAL_TYPE FL_MATERIAL_TYPE_letter FL_MATERIAL_TYPE_ordinal ST_LOAN_TYPE EX_LOAN_TYPE FL_LOAN_TYPE_letter FL_LOAN_TYPE_ordinal ST_INSTITUTION EX_INSTITUTION FL_INSTITUTION_letter FL_INSTITUTION_ordinal ST_CAMPUS EX_CAMPUS FL_CAMPUS_letter FL_CAMPUS_ordinal ST_LIBRARY EX_LIBRARY FL_LIBRARY_letter FL_LIBRARY_ordinal ST_LOCATION EX_LOCATION FL_LOCATION_letter FL_LOCATION_ordinal (Old.start s) p e ha hc hk s m _ below hf ((Spec.applies_iff_loose hf).mp happ).1 ⟨rfl, State.Warmed39.refl s, rfl⟩ trivial
  refine ⟨n, _, h1, h2, h3, hpost _ _ _ _ _ _ ⟨Cond.after_iff.mpr rfl, Cond.after_iff.mpr (eq_i res_at (Term.int_eval (1)) rfl), trivial⟩ ⟨hq.1, hq.2.1, (hq.2.2.sift fun y hy => Or.inr (N y hy)).mono (by decide) (by decide)⟩⟩
theorem main_1_1 : Claimed_1_1 := comes_1 fun _ _ _ _ _ _ h hF => ⟨h.1, hF⟩
theorem main_1_2 : Claimed_1_2 := comes_1 fun _ _ _ _ _ _ h hF => ⟨h.2.1, hF⟩
end Jvm.Pilot.@@N@@
namespace Jvm.Pilot.@@N@@
open Jvm Jvm.ClassFile Sem Op Lib Jvm.Free Jvm.Stand Jvm.Pilot.@@N@@.Jvm.D
/-! MADE BY PROGRAM (witnessworld.py) out of the Statement's table words and the real class files: 13 classes; the members and pool entries that the words name. The judged class is class 1, her method 1. -/
namespace start1
open Jvm.ClassFile
def u (s : String) : CpInfo := .utf8 (stringToUtf16 s)
/-- a pool by its gaps: so many unusable entries, then the entry; so many at the end -/
def gap : Nat → List CpInfo → List CpInfo
  | 0, r => r
  | n + 1, r => .unusable :: gap n r
def poolList (es : List (Nat × CpInfo)) (last : Nat) : List CpInfo := es.foldr (fun e r => gap e.1 (e.2 :: r)) (gap last [])
def pool (es : List (Nat × CpInfo)) (last : Nat) : Array CpInfo := ⟨poolList es last⟩
def fileOf (pool : Array CpInfo) (this : Nat) (attrs : Array Attribute := #[]) (ms : Array MethodInfo := #[]) (fl : Nat := 33) (sup : Nat := 0) (ifs : Array Nat := #[]) (fds : Array FieldInfo := #[]) : ClassFile where
  minorVersion := 0
  majorVersion := 65
  constantPool := pool
  accessFlags := fl
  thisClass := this
  superClass := sup
  interfaces := ifs
  fields := fds
  methods := ms
  attributes := attrs
def plain (name : String) (sup : Option ClassId) : Class where
  name := name
  kind := .ordinary
  loader := none
  accessFlags := 33
  super := sup
  interfaces := #[]
  cf := none
  fields := #[]
  methods := #[]
  instanceTypes := #[]
  staticTypes := #[]
  resolved := #[]
  callSites := []
  init := .initialized
  statics := none
  mirror := none

def pool0 : Array CpInfo := pool [(5, u "<init>"), (0, u "()V"), (1, .class_ 10), (1, u "java/lang/Object")] 113

def k0m0 : Method := { name := "<init>", desc := "()V", sig := { parameters := [], returnType := none }, accessFlags := 1, code := none }
/-- java/lang/Object -/
def k0 : Class := { plain "java/lang/Object" none with
  accessFlags := 33
  interfaces := #[]
  cf := some (fileOf pool0 8 #[] #[{ accessFlags := 1, nameIndex := 5, descriptorIndex := 6, attributes := #[] }] 33 0 #[] #[])
  fields := #[]
  methods := #[k0m0]
  instanceTypes := #[]
  staticTypes := #[]
  resolved := Array.replicate 124 none
  statics := none }

def pool1 : Array CpInfo := pool [(2, .class_ 4), (1, u "java/lang/Object"), (0, u "<init>"), (0, u "()V"), (0, .integer 2147483647), (0, .methodref 9 10), (0, .class_ 11), (0, .nameAndType 12 13), (0, u "com/example/lendgate/lendgate/policy/CriteriumIsPlacePinLaw"), (0, u "pick"), (0, u "(I)Lcom/example/lendgate/lendgate/policy/Criterium;"), (0, .methodref 15 16), (0, .class_ 17), (0, .nameAndType 18 19), (0, u "com/example/lendgate/lendgate/policy/Criterium"), (0, u "letter"), (0, u "()C"), (0, .methodref 15 21), (0, .nameAndType 22 23), (0, u "isPlace"), (0, u "()Z"), (0, .fieldref 15 25), (0, .nameAndType 26 27), (0, u "PATRON_GROUP"), (0, u "Lcom/example/lendgate/lendgate/policy/Criterium;"), (0, .fieldref 15 29), (0, .nameAndType 30 27), (0, u "MATERIAL_TYPE"), (0, .fieldref 15 32), (0, .nameAndType 33 27), (0, u "LOAN_TYPE"), (0, .fieldref 15 35), (0, .nameAndType 36 27), (0, u "INSTITUTION"), (0, .fieldref 15 38), (0, .nameAndType 39 27), (0, u "CAMPUS"), (0, .fieldref 15 41), (0, .nameAndType 42 27), (0, u "LIBRARY"), (0, .fieldref 15 44), (0, .nameAndType 45 27), (0, u "LOCATION"), (2, u "law"), (0, u "(I)Z")] 3

def k1m0 : Method := { name := "<init>", desc := "()V", sig := { parameters := [], returnType := none }, accessFlags := 1, code := none }
def k1c1 : Code := { maxStack := 2, maxLocals := 6, code := code, exceptionTable := #[], attributes := #[] }
def k1m1 : Method := { name := "law", desc := "(I)Z", sig := { parameters := [.int], returnType := some .boolean }, accessFlags := 9, code := some k1c1 }
def k1c2 : Code := { maxStack := 2, maxLocals := 1, code := method_3_code, exceptionTable := #[], attributes := #[] }
def k1m2 : Method := { name := "pick", desc := "(I)Lcom/example/lendgate/lendgate/policy/Criterium;", sig := { parameters := [.int], returnType := some (.object "com/example/lendgate/lendgate/policy/Criterium") }, accessFlags := 10, code := some k1c2 }
/-- com/example/lendgate/lendgate/policy/CriteriumIsPlacePinLaw -/
def k1 : Class := { plain "com/example/lendgate/lendgate/policy/CriteriumIsPlacePinLaw" (some 0) with
  accessFlags := 49
  interfaces := #[]
  cf := some (fileOf pool1 9 #[] #[{ accessFlags := 1, nameIndex := 5, descriptorIndex := 6, attributes := #[] }, { accessFlags := 9, nameIndex := 48, descriptorIndex := 49, attributes := #[] }, { accessFlags := 10, nameIndex := 12, descriptorIndex := 13, attributes := #[] }] 49 2 #[] #[])
  fields := #[]
  methods := #[k1m0, k1m1, k1m2]
  instanceTypes := #[]
  staticTypes := #[]
  resolved := Array.replicate 53 none
  statics := none }

def pool2 : Array CpInfo := pool [(1, .class_ 2), (0, u "java/lang/constant/Constable"), (0, .class_ 4), (0, u "java/lang/Object")] 6

/-- java/lang/constant/Constable -/
def k2 : Class := { plain "java/lang/constant/Constable" (some 0) with
  accessFlags := 1537
  interfaces := #[]
  cf := some (fileOf pool2 1 #[] #[] 1537 3 #[] #[])
  fields := #[]
  methods := #[]
  instanceTypes := #[]
  staticTypes := #[]
  resolved := Array.replicate 11 none
  statics := none }

def pool3 : Array CpInfo := pool [(1, .class_ 2), (0, u "java/lang/Comparable"), (0, .class_ 4), (0, u "java/lang/Object")] 7

/-- java/lang/Comparable -/
def k3 : Class := { plain "java/lang/Comparable" (some 0) with
  accessFlags := 1537
  interfaces := #[]
  cf := some (fileOf pool3 1 #[] #[] 1537 3 #[] #[])
  fields := #[]
  methods := #[]
  instanceTypes := #[]
  staticTypes := #[]
  resolved := Array.replicate 12 none
  statics := none }

def pool4 : Array CpInfo := pool [(1, .class_ 2), (0, u "java/io/Serializable"), (0, .class_ 4), (0, u "java/lang/Object")] 2

/-- java/io/Serializable -/
def k4 : Class := { plain "java/io/Serializable" (some 0) with
  accessFlags := 1537
  interfaces := #[]
  cf := some (fileOf pool4 1 #[] #[] 1537 3 #[] #[])
  fields := #[]
  methods := #[]
  instanceTypes := #[]
  staticTypes := #[]
  resolved := Array.replicate 7 none
  statics := none }

def pool5 : Array CpInfo := pool [(2, .class_ 4), (1, u "java/lang/Enum"), (0, u "name"), (0, u "Ljava/lang/String;"), (0, .fieldref 2 8), (0, .nameAndType 9 10), (0, u "ordinal"), (0, u "I"), (1, .class_ 14), (1, u "java/lang/Object"), (4, u "hash"), (86, .class_ 108), (1, u "java/lang/Enum$EnumDesc"), (2, .class_ 112), (0, u "java/lang/constant/Constable"), (0, .class_ 114), (0, u "java/lang/Comparable"), (0, .class_ 116), (0, u "java/io/Serializable"), (9, u "()I")] 77

def k5c0 : Code := { maxStack := 1, maxLocals := 1, code := jdk_37_method_2_code, exceptionTable := #[], attributes := #[] }
def k5m0 : Method := { name := "ordinal", desc := "()I", sig := { parameters := [], returnType := some .int }, accessFlags := 17, code := some k5c0 }
/-- java/lang/Enum -/
def k5 : Class := { plain "java/lang/Enum" (some 0) with
  accessFlags := 1057
  interfaces := #[2, 3, 4]
  cf := some (fileOf pool5 2 #[.nestMembers #[106]] #[{ accessFlags := 17, nameIndex := 9, descriptorIndex := 126, attributes := #[] }] 1057 12 #[111, 113, 115] #[{ accessFlags := 18, nameIndex := 5, descriptorIndex := 6, attributes := #[] }, { accessFlags := 18, nameIndex := 9, descriptorIndex := 10, attributes := #[] }, { accessFlags := 2, nameIndex := 19, descriptorIndex := 10, attributes := #[] }])
  fields := #[{ name := "name", type := (.object "java/lang/String"), accessFlags := 18, slot := 0, constantValue := 0 }, { name := "ordinal", type := .int, accessFlags := 18, slot := 1, constantValue := 0 }, { name := "hash", type := .int, accessFlags := 2, slot := 2, constantValue := 0 }]
  methods := #[k5m0]
  instanceTypes := #[(.object "java/lang/String"), .int, .int]
  staticTypes := #[]
  resolved := Array.replicate 204 none
  statics := none }

def pool6 : Array CpInfo := pool [(8, .class_ 10), (1, u "com/example/lendgate/lendgate/policy/Lettered"), (38, .class_ 50), (0, u "java/lang/Object")] 36

/-- com/example/lendgate/lendgate/policy/Lettered -/
def k6 : Class := { plain "com/example/lendgate/lendgate/policy/Lettered" (some 0) with
  accessFlags := 1536
  interfaces := #[]
  cf := some (fileOf pool6 8 #[] #[] 1536 49 #[] #[])
  fields := #[]
  methods := #[]
  instanceTypes := #[]
  staticTypes := #[]
  resolved := Array.replicate 87 none
  statics := none }

def pool7 : Array CpInfo := pool [(1, .class_ 2), (0, u "com/example/lendgate/lendgate/policy/Criterium"), (2, u "PATRON_GROUP"), (0, u "Lcom/example/lendgate/lendgate/policy/Criterium;"), (2, u "MATERIAL_TYPE"), (2, u "LOAN_TYPE"), (2, u "INSTITUTION"), (2, u "CAMPUS"), (2, u "LIBRARY"), (2, u "LOCATION"), (2, u "$VALUES"), (0, u "[Lcom/example/lendgate/lendgate/policy/Criterium;"), (6, .class_ 37), (1, u "java/lang/Enum"), (6, .fieldref 1 45), (0, .nameAndType 46 47), (0, u "letter"), (0, u "C"), (2, u "kind"), (0, u "Lcom/example/lendgate/lendgate/policy/RecordKind;"), (0, .methodref 1 53), (0, .nameAndType 54 55), (0, u "ordinal"), (0, u "()I"), (35, .class_ 92), (0, u "com/example/lendgate/lendgate/policy/Lettered"), (7, u "()C"), (1, u "isPlace"), (0, u "()Z")] 6

def k7c0 : Code := { maxStack := 1, maxLocals := 1, code := prog_29_method_4_code, exceptionTable := #[], attributes := #[] }
def k7m0 : Method := { name := "letter", desc := "()C", sig := { parameters := [], returnType := some .char }, accessFlags := 1, code := some k7c0 }
def k7c1 : Code := { maxStack := 4, maxLocals := 1, code := prog_29_method_6_code, exceptionTable := #[], attributes := #[] }
def k7m1 : Method := { name := "isPlace", desc := "()Z", sig := { parameters := [], returnType := some .boolean }, accessFlags := 0, code := some k7c1 }
/-- com/example/lendgate/lendgate/policy/Criterium -/
def k7 : Class := { plain "com/example/lendgate/lendgate/policy/Criterium" (some 5) with
  accessFlags := 16433
  interfaces := #[6]
  cf := some (fileOf pool7 1 #[] #[{ accessFlags := 1, nameIndex := 46, descriptorIndex := 100, attributes := #[] }, { accessFlags := 0, nameIndex := 102, descriptorIndex := 103, attributes := #[] }] 16433 35 #[91] #[{ accessFlags := 16409, nameIndex := 5, descriptorIndex := 6, attributes := #[] }, { accessFlags := 16409, nameIndex := 9, descriptorIndex := 6, attributes := #[] }, { accessFlags := 16409, nameIndex := 12, descriptorIndex := 6, attributes := #[] }, { accessFlags := 16409, nameIndex := 15, descriptorIndex := 6, attributes := #[] }, { accessFlags := 16409, nameIndex := 18, descriptorIndex := 6, attributes := #[] }, { accessFlags := 16409, nameIndex := 21, descriptorIndex := 6, attributes := #[] }, { accessFlags := 16409, nameIndex := 24, descriptorIndex := 6, attributes := #[] }, { accessFlags := 18, nameIndex := 46, descriptorIndex := 47, attributes := #[] }, { accessFlags := 18, nameIndex := 50, descriptorIndex := 51, attributes := #[] }, { accessFlags := 4122, nameIndex := 27, descriptorIndex := 28, attributes := #[] }])
  fields := #[{ name := "PATRON_GROUP", type := (.object "com/example/lendgate/lendgate/policy/Criterium"), accessFlags := 16409, slot := 0, constantValue := 0 }, { name := "MATERIAL_TYPE", type := (.object "com/example/lendgate/lendgate/policy/Criterium"), accessFlags := 16409, slot := 1, constantValue := 0 }, { name := "LOAN_TYPE", type := (.object "com/example/lendgate/lendgate/policy/Criterium"), accessFlags := 16409, slot := 2, constantValue := 0 }, { name := "INSTITUTION", type := (.object "com/example/lendgate/lendgate/policy/Criterium"), accessFlags := 16409, slot := 3, constantValue := 0 }, { name := "CAMPUS", type := (.object "com/example/lendgate/lendgate/policy/Criterium"), accessFlags := 16409, slot := 4, constantValue := 0 }, { name := "LIBRARY", type := (.object "com/example/lendgate/lendgate/policy/Criterium"), accessFlags := 16409, slot := 5, constantValue := 0 }, { name := "LOCATION", type := (.object "com/example/lendgate/lendgate/policy/Criterium"), accessFlags := 16409, slot := 6, constantValue := 0 }, { name := "letter", type := .char, accessFlags := 18, slot := 3, constantValue := 0 }, { name := "kind", type := (.object "com/example/lendgate/lendgate/policy/RecordKind"), accessFlags := 18, slot := 4, constantValue := 0 }, { name := "$VALUES", type := (.array (.object "com/example/lendgate/lendgate/policy/Criterium")), accessFlags := 4122, slot := 7, constantValue := 0 }]
  methods := #[k7m0, k7m1]
  instanceTypes := #[(.object "java/lang/String"), .int, .int, .char, (.object "com/example/lendgate/lendgate/policy/RecordKind")]
  staticTypes := #[(.object "com/example/lendgate/lendgate/policy/Criterium"), (.object "com/example/lendgate/lendgate/policy/Criterium"), (.object "com/example/lendgate/lendgate/policy/Criterium"), (.object "com/example/lendgate/lendgate/policy/Criterium"), (.object "com/example/lendgate/lendgate/policy/Criterium"), (.object "com/example/lendgate/lendgate/policy/Criterium"), (.object "com/example/lendgate/lendgate/policy/Criterium"), (.array (.object "com/example/lendgate/lendgate/policy/Criterium"))]
  resolved := Array.replicate 110 none
  statics := some 0 }

def pool8 : Array CpInfo := pool [(1, u "java/lang/Cloneable"), (0, .class_ 1), (0, u "java/lang/Object"), (0, .class_ 3)] 3

/-- java/lang/Cloneable -/
def k8 : Class := { plain "java/lang/Cloneable" (some 0) with
  accessFlags := 1537
  interfaces := #[]
  cf := some (fileOf pool8 2 #[] #[] 1537 4 #[] #[])
  fields := #[]
  methods := #[]
  instanceTypes := #[]
  staticTypes := #[]
  resolved := Array.replicate 8 none
  statics := none }

/-- the primitive byte -/
def k9 : Class := { plain "byte" none with kind := .primitive 'B', accessFlags := 0x411 }
/-- [B -/
def k10 : Class := { plain "[B" (some 0) with kind := .array 9 .byte, interfaces := #[8, 4], accessFlags := 1041 }

/-- the primitive int -/
def k11 : Class := { plain "int" none with kind := .primitive 'I', accessFlags := 0x411 }
/-- [I -/
def k12 : Class := { plain "[I" (some 0) with kind := .array 11 .int, interfaces := #[8, 4], accessFlags := 1041 }

def heap : Heap := #[{ cls := 7, slots := #[.ref 1, .ref 2, .ref 3, .ref 4, .ref 5, .ref 6, .ref 7, .null], vm := .statics 7 },
  { cls := 7, slots := #[.null, .int 0, .int 0, .int 103, .null], vm := .none },
  { cls := 7, slots := #[.null, .int 1, .int 0, .int 109, .null], vm := .none },
  { cls := 7, slots := #[.null, .int 2, .int 0, .int 116, .null], vm := .none },
  { cls := 7, slots := #[.null, .int 3, .int 0, .int 97, .null], vm := .none },
  { cls := 7, slots := #[.null, .int 4, .int 0, .int 98, .null], vm := .none },
  { cls := 7, slots := #[.null, .int 5, .int 0, .int 99, .null], vm := .none },
  { cls := 7, slots := #[.null, .int 6, .int 0, .int 115, .null], vm := .none }]
def classes : Array Class := #[k0, k1, k2, k3, k4, k5, k6, k7, k8, k9, k10, k11, k12]
def interned : List (Array UInt16 × Addr) := []
def slotsUsed : Nat := 43
def theMethod : MethodId := ⟨1, 1⟩
def args0 : Array Value := #[.int 5]
def aboutOver (below : List Frame) : State where
  vm := { classes := classes, interned := interned.toArray }
  heap := heap
  slotsUsed := slotsUsed
  threads := #[{ frames := .invoking theMethod args0 :: below }]
def below0 : List Frame := [.native { method := ⟨0, 0⟩, args := #[] }]
def about1 : State := aboutOver below0
def p0 : Program := .bare "" "" ""
def e0 : Env := launch0.env 0 0 0
theorem w_frames : about1.frames = Frame.invoking theMethod args0 :: below0 := rfl
set_option maxRecDepth 65536 in
theorem w_args : argsFit about1.vm theMethod args0 = true := by decide +kernel
set_option maxRecDepth 65536 in
theorem w_heap : heapFits about1 = true := by decide +kernel
set_option maxRecDepth 65536 in
theorem w_runnable : about1.curStatus? = some .runnable := by decide +kernel
set_option maxRecDepth 65536 in
theorem w_alone : about1.alone = true := by decide +kernel
set_option maxRecDepth 65536 in
theorem w_named : about1.methodNamed? x = some theMethod := by decide +kernel
set_option maxRecDepth 65536 in
theorem w_hears : about1.hears theMethod below0 = true := by decide +kernel
set_option maxRecDepth 65536 in
theorem w_ripe : about1.ripe theMethod args0 below0 = true := by decide +kernel
theorem w_running : about1.status = .running := rfl
set_option maxRecDepth 65536 in
theorem w_room : about1.hasRoom e0.platform room_1 = true :=
  launch0.hasRoom_least _ room_1 (by decide +kernel) (by decide +kernel) (by decide +kernel) (by decide +kernel) (by decide +kernel) (by decide +kernel)
theorem allAtoms_all (ts : List Jvm.Cond) (a : Array Jvm.Value) (st : Jvm.State) : (allAtoms ts).before a st = ts.all (fun c => c.before a st) := by
  induction ts with
  | nil => rfl
  | cons c t ih =>
    show (Jvm.Cond.and c (allAtoms t)).before a st = _
    rw [Jvm.Cond.before_and, ih, List.all_cons]
def words1 : List Jvm.Cond := Jvm.Cond.code x code maxLocals ret :: tables_1
/-- a 'code' word, met by the world's own term for the bytes: nothing is compared byte by byte -/
theorem code_word {y : MethodName} {bytes : ByteArray} {mx : Nat} {rt : Option FieldType} {a : Array Value} {s : State} {m : MethodId} {meth : Method} {c : Code} (h1 : s.methodNamed? y = some m) (h2 : s.vm.method? m = some meth) (h3 : meth.code = some c) (h4 : c.code = bytes)
    (h5 : (c.maxLocals == mx && c.exceptionTable.isEmpty && decide (c.maxStack ≤ mostOperands) && decide (meth.sig.returnType = rt) && !meth.locks && decide (parseMethodDescriptor y.desc = some meth.sig)) = true) : (Jvm.Cond.code y bytes mx rt).before a s = true := by
  simp only [Bool.and_eq_true, beq_iff_eq, Bool.not_eq_true', decide_eq_true_eq] at h5
  obtain ⟨⟨⟨⟨⟨g1, g2⟩, g3⟩, g4⟩, g5⟩, g6⟩ := h5
  simp [Cond.before, Cond.holds, Cond.value, h1, h2, h3, h4, g1, g2, g3, g4, g5, g6]
def isCode : Jvm.Cond → Bool
  | .code _ _ _ _ => true
  | _ => false
theorem all_split {L : List Jvm.Cond} {P : Jvm.Cond → Bool} (h1 : L.all (fun c => isCode c || P c) = true) (h2 : ∀ c ∈ L.filter isCode, P c = true) : L.all P = true := by
  refine List.all_eq_true.mpr fun c hc => ?_
  have h := List.all_eq_true.mp h1 c hc
  rcases Bool.eq_false_or_eq_true (isCode c) with hi | hi
  · exact h2 c (List.mem_filter.mpr ⟨hc, hi⟩)
  · simpa [hi] using h
set_option maxRecDepth 65536 in
theorem w_c0 : (Jvm.Cond.code x code maxLocals ret).before args0 about1 = true := code_word (m := ⟨1, 1⟩) (meth := k1m1) (c := k1c1) (by decide +kernel) rfl rfl rfl (by decide +kernel)
set_option maxRecDepth 65536 in
theorem w_c1 : (Jvm.Cond.code ({ cls := "com/example/lendgate/lendgate/policy/CriteriumIsPlacePinLaw", name := "pick", desc := "(I)Lcom/example/lendgate/lendgate/policy/Criterium;" } : Jvm.MethodName) method_3_code (1 : Nat) (Option.some (Jvm.ClassFile.FieldType.object "com/example/lendgate/lendgate/policy/Criterium"))).before args0 about1 = true := code_word (m := ⟨1, 2⟩) (meth := k1m2) (c := k1c2) (by decide +kernel) rfl rfl rfl (by decide +kernel)
set_option maxRecDepth 65536 in
theorem w_c2 : (Jvm.Cond.code ({ cls := "com/example/lendgate/lendgate/policy/Criterium", name := "letter", desc := "()C" } : Jvm.MethodName) prog_29_method_4_code (1 : Nat) (Option.some Jvm.ClassFile.FieldType.char)).before args0 about1 = true := code_word (m := ⟨7, 0⟩) (meth := k7m0) (c := k7c0) (by decide +kernel) rfl rfl rfl (by decide +kernel)
set_option maxRecDepth 65536 in
theorem w_c3 : (Jvm.Cond.code ({ cls := "com/example/lendgate/lendgate/policy/Criterium", name := "isPlace", desc := "()Z" } : Jvm.MethodName) prog_29_method_6_code (1 : Nat) (Option.some Jvm.ClassFile.FieldType.boolean)).before args0 about1 = true := code_word (m := ⟨7, 1⟩) (meth := k7m1) (c := k7c1) (by decide +kernel) rfl rfl rfl (by decide +kernel)
set_option maxRecDepth 65536 in
theorem w_c4 : (Jvm.Cond.code ({ cls := "java/lang/Enum", name := "ordinal", desc := "()I" } : Jvm.MethodName) jdk_37_method_2_code (1 : Nat) (Option.some Jvm.ClassFile.FieldType.int)).before args0 about1 = true := code_word (m := ⟨5, 0⟩) (meth := k5m0) (c := k5c0) (by decide +kernel) rfl rfl rfl (by decide +kernel)
def codes1 : List Jvm.Cond := [Jvm.Cond.code x code maxLocals ret, Jvm.Cond.code ({ cls := "com/example/lendgate/lendgate/policy/CriteriumIsPlacePinLaw", name := "pick", desc := "(I)Lcom/example/lendgate/lendgate/policy/Criterium;" } : Jvm.MethodName) method_3_code (1 : Nat) (Option.some (Jvm.ClassFile.FieldType.object "com/example/lendgate/lendgate/policy/Criterium")), Jvm.Cond.code ({ cls := "com/example/lendgate/lendgate/policy/Criterium", name := "letter", desc := "()C" } : Jvm.MethodName) prog_29_method_4_code (1 : Nat) (Option.some Jvm.ClassFile.FieldType.char), Jvm.Cond.code ({ cls := "com/example/lendgate/lendgate/policy/Criterium", name := "isPlace", desc := "()Z" } : Jvm.MethodName) prog_29_method_6_code (1 : Nat) (Option.some Jvm.ClassFile.FieldType.boolean), Jvm.Cond.code ({ cls := "java/lang/Enum", name := "ordinal", desc := "()I" } : Jvm.MethodName) jdk_37_method_2_code (1 : Nat) (Option.some Jvm.ClassFile.FieldType.int)]
set_option maxRecDepth 65536 in
theorem codes_eq : words1.filter isCode = codes1 := rfl
theorem w_codes : ∀ c ∈ words1.filter isCode, c.before args0 about1 = true := by
  rw [codes_eq]
  intro c hc
  simp only [codes1, List.mem_cons, List.not_mem_nil, or_false] at hc
  rcases hc with rfl | rfl | rfl | rfl | rfl
  · exact w_c0
  · exact w_c1
  · exact w_c2
  · exact w_c3
  · exact w_c4
set_option maxRecDepth 65536 in
theorem w_t1 : (words1.take 24).all (fun c => isCode c || c.before args0 about1) = true := by decide +kernel
set_option maxRecDepth 65536 in
theorem w_t2 : (words1.drop 24).all (fun c => isCode c || c.before args0 about1) = true := by decide +kernel
theorem w_tables : (allAtoms (Jvm.Cond.code x code maxLocals ret :: tables_1)).before args0 about1 = true := by
  rw [allAtoms_all]
  show words1.all (fun c => c.before args0 about1) = true
  refine all_split ?_ w_codes
  rw [← List.take_append_drop 24 words1, List.all_append, w_t1, w_t2]
  rfl
set_option maxRecDepth 65536 in
theorem w_case : (Jvm.Cond.and given_1 narrow_1).before args0 about1 = true := by decide +kernel
theorem w_applies : (headSpec (Jvm.Cond.code x code maxLocals ret :: tables_1) room_1).applies x e0.platform about1 = true :=
  (Spec.applies_iff w_frames).mpr ⟨w_running, w_runnable, w_alone, w_named, w_hears, w_ripe, w_room, w_tables⟩
theorem atStart : AtStart classFile x code maxLocals ret World_1 tables_1 room_1 Calls_1 rest_1 Pre_1 launch0 p0 e0 about1 theMethod args0 below0 :=
  ⟨lists_1, trivial, launch0.admits_env _ _ _, launch0.least_env, fairChoices_fair.cas, fairChoices_fair.clock, w_frames, w_args, w_heap, w_applies, trivial, trivial, w_case⟩
end start1
theorem witness_1 : WitnessClaimed_1 := ⟨start1.p0, start1.e0, start1.about1, start1.theMethod, start1.args0, start1.below0, start1.atStart⟩
end Jvm.Pilot.@@N@@
