import JvmDerived
import JvmDerived.Pilot.@@N@@Statement
import JvmDerived.Pilot.@@N@@Code
set_option linter.unusedVariables false
set_option linter.unusedSimpArgs false
namespace Jvm.Pilot.@@N@@
open Jvm Jvm.ClassFile Sem Op Lib Jvm.Free Jvm.Stand Jvm.LawKit Jvm.RoadKit Bundle Jvm.Pilot.@@N@@.Jvm.D
/-! from the state S the run comes to an end that QQ allows -/
def Goes (p : Program) (e : Env) (below : List Frame) (QQ : Outcome → State → Prop) (S : State) : Prop :=
  ∃ s₂ o, Steps p.tables e below S s₂ ∧ s₂.status = .running ∧ Ended s₂ below o ∧ QQ o s₂
theorem Goes.on {p : Program} {e : Env} {below : List Frame} {QQ : Outcome → State → Prop} {S S' : State} (h : ∀ t, Steps p.tables e below S' t → Steps p.tables e below S t) (g : Goes p e below QQ S') : Goes p e below QQ S := by
  obtain ⟨s₂, o, h1, h2⟩ := g
  exact ⟨s₂, o, h _ h1, h2⟩
theorem Goes.cast {p : Program} {e : Env} {below : List Frame} {QQ : Outcome → State → Prop} {T : State} {g g' : JFrame} (q : g = g') (k : Goes p e below QQ (T.setTop g')) : Goes p e below QQ (T.setTop g) := q ▸ k
def EndsQ (s : State) (Q : Option Value → Heap → List Loc → Prop) (kc ks : Nat) (o : Outcome) (U' : State) : Prop := ∃ v L, o = .returned v ∧ Q v U'.heap L ∧ FrameEnd s o U' L kc ks
/-- a result alone -/
def QP (x : Value) (h0 : Heap) (n0 : Nat) (v : Option Value) (h : Heap) (L : List Loc) : Prop := v = some x ∧ Fr n0 L ∧ h = h0
theorem own_enter {l : Launch} {y : MethodName} {bytes : ByteArray} {maxL : Nat} {rt : Option FieldType} {ws : List Jvm.Cond} {rm : Room} {as' : Array Value} {Q : Option Value → Heap → List Loc → Prop} {Z : State} {h0 : Heap} {kc ks : Nat} (hp : plainFor y = true)
    (body : ∀ (p : Program) (e : Env) (s : State) (m : MethodId) (below : List Frame) (meth : Method) (c : Code) (s₁ : State) (QQ : Outcome → State → Prop), (∀ o U', EndsQ s Q kc ks o U' → QQ o U') → p.tables.exec = Jvm.exec → c.code = bytes → c.maxLocals = maxL → s.vm.findClass y.cls = some m.cls → meth.name = y.name → meth.sig.returnType = rt → meth.locks = false → Z.Warmed39 s.vm → Stand p l e rm s m as' below meth c s₁ [] 0 0 → s₁.heap = h0 →
      Goes p e below QQ (s₁.setTop (entryFrame m as' maxL))) :
    MetFree l y (head1 (Jvm.Cond.code y bytes maxL rt :: ws) rm) (fun a U => a = as' ∧ Z.Warmed39 U.vm ∧ U.heap = h0) (fun _ _ _ _ _ => True) (fun _ U o U' => ∃ v L, o = .returned v ∧ Q v U'.heap L ∧ FrameEnd U o U' L kc ks) := by
  refine MetFree.of_bodySF hp hisR ?_
  intro p e s m args below meth c s₁ Bd hml0 hP hK
  obtain ⟨rfl, hZ, hh⟩ := hP
  exact body p e s m below meth c s₁ _ (fun o U' h => h) Bd.exec Bd.bytes hml0 (findClass_of_methodNamed Bd.named) (name_of_methodNamed Bd.named Bd.method).1 Bd.returns (BodyLoose.notSynchronized Bd) hZ (Stand.of_body Bd) (by rw [← hh, Bd.state]; rfl)
section Ret
variable {p : Program} {l : Launch} {e : Env} {R : Room} {s : State} {m : MethodId} {args : Array Value} {below : List Frame} {meth : Method} {c : Code} {T : State} {locs : List Loc} {cells slots kc ks : Nat} {QQ : Outcome → State → Prop} {Q : Option Value → Heap → List Loc → Prop}
theorem Goes.fin (X : Stand p l e R s m args below meth c T locs cells slots) (hlk : meth.locks = false) {v : Option Value} (hv : meth.sig.returnType = none → v = none) {g : JFrame}
    (step : ∀ fs : List Frame, (∀ (f : JFrame) (acts : List Action), f.method = m → f.locked = none → f.entered = [] → (doReturn e (T.setTop f) acts v).1 = T.setFrames fs) → Steps p.tables e below (T.setTop g) (T.setFrames fs))
    (hQQ : ∀ o U', EndsQ s Q kc ks o U' → QQ o U') (hq : Q v T.heap locs) (hc : cells ≤ kc) (hs : slots ≤ ks) : Goes p e below QQ (T.setTop g) := by
  obtain ⟨fs, hr, hrun, hended, hW, hsame⟩ := X.leave (v := v) hv hlk
  exact ⟨_, _, step fs hr, hrun, hended, hQQ _ _ ⟨v, locs, rfl, hq, ⟨v, rfl⟩, hW, hsame.mono hc hs⟩⟩
theorem Goes.rI (X : Stand p l e R s m args below meth c T locs cells slots) (hx : p.tables.exec = Jvm.exec) (hret : meth.sig.returnType = some .int) (hlk : meth.locks = false) {pc : Nat} {Ls : Array Slot} {z : Int32} {rest : List Value} (hd : decode c.code pc = .ok (.ireturn, 1))
    (hQQ : ∀ o U', EndsQ s Q kc ks o U' → QQ o U') (hq : Q (some (.int z)) T.heap locs) (hc : cells ≤ kc) (hs : slots ≤ ks) : Goes p e below QQ (T.setTop (mkF m pc Ls (.int z :: rest))) :=
  Goes.fin X hlk (v := some (.int z)) (fun h => by rw [hret] at h; cases h) (fun fs hr => retOut X hx hret rfl (Or.inl ⟨rfl, Or.inl rfl, z, rfl⟩) hd hr) hQQ hq hc hs
theorem Goes.rN (X : Stand p l e R s m args below meth c T locs cells slots) (hx : p.tables.exec = Jvm.exec) {t : FieldType} (hret : meth.sig.returnType = some t) (ht : t = .boolean ∨ t = .byte ∨ t = .char ∨ t = .short) (hlk : meth.locks = false) {pc : Nat} {Ls : Array Slot} {z : Int32} {rest : List Value} (hd : decode c.code pc = .ok (.ireturn, 1))
    (hQQ : ∀ o U', EndsQ s Q kc ks o U' → QQ o U') (hq : Q (some (.int (nar t z))) T.heap locs) (hc : cells ≤ kc) (hs : slots ≤ ks) : Goes p e below QQ (T.setTop (mkF m pc Ls (.int z :: rest))) :=
  Goes.fin X hlk (v := some (.int (nar t z))) (fun h => by rw [hret] at h; cases h) (fun fs hr => retN X hx hret ht hd hr) hQQ hq hc hs
theorem Goes.rJ (X : Stand p l e R s m args below meth c T locs cells slots) (hx : p.tables.exec = Jvm.exec) (hret : meth.sig.returnType = some .long) (hlk : meth.locks = false) {pc : Nat} {Ls : Array Slot} {z : Int64} {rest : List Value} (hd : decode c.code pc = .ok (.lreturn, 1))
    (hQQ : ∀ o U', EndsQ s Q kc ks o U' → QQ o U') (hq : Q (some (.long z)) T.heap locs) (hc : cells ≤ kc) (hs : slots ≤ ks) : Goes p e below QQ (T.setTop (mkF m pc Ls (.long z :: rest))) :=
  Goes.fin X hlk (v := some (.long z)) (fun h => by rw [hret] at h; cases h) (fun fs hr => retOut X hx hret rfl (Or.inr (Or.inl ⟨rfl, rfl, z, rfl⟩)) hd hr) hQQ hq hc hs
theorem Goes.rA (X : Stand p l e R s m args below meth c T locs cells slots) (hx : p.tables.exec = Jvm.exec) {t : FieldType} (hret : meth.sig.returnType = some t) (ht : t.isReference = true) {w : Value} (hw : w.isRef = true) (hlk : meth.locks = false) {pc : Nat} {Ls : Array Slot} {rest : List Value} (hd : decode c.code pc = .ok (.areturn, 1))
    (hQQ : ∀ o U', EndsQ s Q kc ks o U' → QQ o U') (hq : Q (some w) T.heap locs) (hc : cells ≤ kc) (hs : slots ≤ ks) : Goes p e below QQ (T.setTop (mkF m pc Ls (w :: rest))) :=
  Goes.fin X hlk (v := some w) (fun h => by rw [hret] at h; cases h) (fun fs hr => retOut X hx hret (by cases w <;> first | (cases hw; done) | (cases t <;> first | (cases ht; done) | rfl)) (Or.inr (Or.inr (Or.inr (Or.inr ⟨rfl, ht, hw⟩)))) hd hr) hQQ hq hc hs
theorem Goes.rV (X : Stand p l e R s m args below meth c T locs cells slots) (hx : p.tables.exec = Jvm.exec) (hret : meth.sig.returnType = none) (hlk : meth.locks = false) {pc : Nat} {Ls : Array Slot} (hd : decode c.code pc = .ok (.return_, 1))
    (hQQ : ∀ o U', EndsQ s Q kc ks o U' → QQ o U') (hq : Q none T.heap locs) (hc : cells ≤ kc) (hs : slots ≤ ks) : Goes p e below QQ (T.setTop (mkF m pc Ls [])) :=
  Goes.fin X hlk (v := none) (fun _ => rfl) (fun fs hr => X.returnOut hx hret hd hr) hQQ hq hc hs
end Ret
/-- what the law leaves: it returned 1, and nothing old was written -/
def QL (n0 : Nat) (v : Option Value) (h : Heap) (L : List Loc) : Prop := v = some (.int 1) ∧ Fr n0 L
theorem d1_0 : decode prog_92_method_3_code 0 = .ok (.lload_n 0, 1) := by decide +kernel
theorem d1_1 : decode prog_92_method_3_code 1 = .ok (.lconst 0, 1) := by decide +kernel
theorem d1_2 : decode prog_92_method_3_code 2 = .ok (.lcmp, 1) := by decide +kernel
theorem d1_3 : decode prog_92_method_3_code 3 = .ok (.ifCond .eq 19, 3) := by decide +kernel
theorem d1_6 : decode prog_92_method_3_code 6 = .ok (.lload_n 2, 1) := by decide +kernel
theorem d1_7 : decode prog_92_method_3_code 7 = .ok (.ldc2_w 9, 3) := by decide +kernel
theorem d1_10 : decode prog_92_method_3_code 10 = .ok (.lload_n 0, 1) := by decide +kernel
theorem d1_11 : decode prog_92_method_3_code 11 = .ok (.ldiv, 1) := by decide +kernel
theorem d1_12 : decode prog_92_method_3_code 12 = .ok (.lcmp, 1) := by decide +kernel
theorem d1_13 : decode prog_92_method_3_code 13 = .ok (.ifCond .le 9, 3) := by decide +kernel
theorem d1_16 : decode prog_92_method_3_code 16 = .ok (.ldc2_w 9, 3) := by decide +kernel
theorem d1_19 : decode prog_92_method_3_code 19 = .ok (.goto 6, 3) := by decide +kernel
theorem d1_22 : decode prog_92_method_3_code 22 = .ok (.lload_n 0, 1) := by decide +kernel
theorem d1_23 : decode prog_92_method_3_code 23 = .ok (.lload_n 2, 1) := by decide +kernel
theorem d1_24 : decode prog_92_method_3_code 24 = .ok (.lmul, 1) := by decide +kernel
theorem d1_25 : decode prog_92_method_3_code 25 = .ok (.lreturn, 1) := by decide +kernel
theorem pn_1 : plainFor (⟨"com/example/threadline/threadline/util/Saturating", "multiply", "(JJ)J"⟩ : MethodName) = true := plainFor_of_name (show plainName "com/example/threadline/threadline/util/Saturating" = true by first | (simp [plainName, overriddenIn]; done) | decide +kernel)
theorem ef_rm1 (m : MethodId) (x0 : Int64) (x1 : Int64) : entryFrame m #[(.long x0), (.long x1)] 4 = mkF m 0 #[.val (.long x0), .second, .val (.long x1), .second] [] := by first | (simp [entryFrame, mkF, argsToLocals, Value.category]; done) | rfl
def satMul (p1 : Int64) (p2 : Int64) : Int64 := (if p1 = (0 : Int64) then (p1 * p2) else (if ((9223372036854775807 : Int64) / p1) < p2 then (9223372036854775807 : Int64) else (p1 * p2)))
set_option maxRecDepth 65536 in
set_option maxHeartbeats 40000000 in
theorem rm1 (l : Launch) (Z : State) (a0 : Array Value) (hw : ∀ d ∈ tables_1, d.before a0 Z = true) (ws : List Jvm.Cond) (p1 : Int64) (p2 : Int64)  (h0 : Heap) (n0 : Nat) (Z0 : n0 ≤ h0.size)  :
    MetFree l (⟨"com/example/threadline/threadline/util/Saturating", "multiply", "(JJ)J"⟩ : MethodName) (head1 (Jvm.Cond.code (⟨"com/example/threadline/threadline/util/Saturating", "multiply", "(JJ)J"⟩ : MethodName) prog_92_method_3_code 4 (some .long) :: ws) ({ frames := 0, cells := 0, slots := 0, locals := 0 } : Room)) (fun a U => a = #[(.long p1), (.long p2)] ∧ Z.Warmed39 U.vm ∧ U.heap = h0) (fun _ _ _ _ _ => True) (fun _ U o U' => ∃ v L, o = .returned v ∧ QP (.long (satMul p1 p2)) h0 n0 v U'.heap L ∧ FrameEnd U o U' L ({ frames := 0, cells := 0, slots := 0, locals := 0 } : Room).cells ({ frames := 0, cells := 0, slots := 0, locals := 0 } : Room).slots) := by
  refine own_enter pn_1 ?_
  intro p e s m below meth c s₁ QQ hQQ hx hby hml hown hnm hret hlk hZ X0 e0
  have hown : s.vm.findClass "com/example/threadline/threadline/util/Saturating" = some m.cls := hown
  have hml : c.maxLocals = 4 := hml
  have hret : meth.sig.returnType = some .long := hret
  have N0 := Fr.nil n0
  have K0 := Keep.refl h0 []
  refine Goes.cast (ef_rm1 m p1 p2) ?_
  show Goes p e below QQ (s₁.setTop (mkF m 0 #[.val (.long p1), .second, .val (.long p2), .second] []))
  refine Goes.on (fun t k => XS.lloadN X0.here hx rfl (hb hby d1_0) rfl k) ?_
  show Goes p e below QQ (s₁.setTop (mkF m 1 #[.val (.long p1), .second, .val (.long p2), .second] [(.long p1)]))
  refine Goes.on (fun t k => XS.lconst X0.here hx rfl (hb hby d1_1) k) ?_
  show Goes p e below QQ (s₁.setTop (mkF m 2 #[.val (.long p1), .second, .val (.long p2), .second] [(.long (0 : Int64)), (.long p1)]))
  refine Goes.on (fun t k => XS.lcmp X0.here hx rfl (hb hby d1_2) rfl k) ?_
  show Goes p e below QQ (s₁.setTop (mkF m 3 #[.val (.long p1), .second, .val (.long p2), .second] [(.int (lcmpW p1 (0 : Int64)))]))
  by_cases hb1 : p1 = (0 : Int64)
  · refine Goes.on (fun t k => XS.ifYes X0.here hx rfl (pc0 := 3) (pc' := 22) rfl (hb hby d1_3) rfl ((if0 _ _).trans (teq ((lw_eq p1 (0 : Int64)).mpr hb1)).1) (by decide) (by decide) k) ?_
    show Goes p e below QQ (s₁.setTop (mkF m 22 #[.val (.long p1), .second, .val (.long p2), .second] []))
    refine Goes.on (fun t k => XS.lloadN X0.here hx rfl (hb hby d1_22) rfl k) ?_
    show Goes p e below QQ (s₁.setTop (mkF m 23 #[.val (.long p1), .second, .val (.long p2), .second] [(.long p1)]))
    refine Goes.on (fun t k => XS.lloadN X0.here hx rfl (hb hby d1_23) rfl k) ?_
    show Goes p e below QQ (s₁.setTop (mkF m 24 #[.val (.long p1), .second, .val (.long p2), .second] [(.long p2), (.long p1)]))
    refine Goes.on (fun t k => XS.lmul X0.here hx rfl (hb hby d1_24) rfl k) ?_
    show Goes p e below QQ (s₁.setTop (mkF m 25 #[.val (.long p1), .second, .val (.long p2), .second] [(.long (p1 * p2))]))
    exact Goes.rJ X0 hx hret hlk (hb hby d1_25) hQQ ⟨congrArg (fun z => some (Value.long z)) (((if_pos hb1).trans rfl) : (satMul p1 p2) = (p1 * p2)).symm, N0, e0⟩ (by decide) (by decide)
  · refine Goes.on (fun t k => XS.ifNo X0.here hx rfl (hb hby d1_3) rfl ((if0 _ _).trans (feq (mt (lw_eq p1 (0 : Int64)).mp hb1)).1) k) ?_
    show Goes p e below QQ (s₁.setTop (mkF m 6 #[.val (.long p1), .second, .val (.long p2), .second] []))
    refine Goes.on (fun t k => XS.lloadN X0.here hx rfl (hb hby d1_6) rfl k) ?_
    show Goes p e below QQ (s₁.setTop (mkF m 7 #[.val (.long p1), .second, .val (.long p2), .second] [(.long p2)]))
    refine Goes.on (fun t k => X0.ldc2Long hx hown (mvT hZ (hw _ (List.mem_of_getElem? (i := 5) rfl))) (g := (mkF m 7 #[.val (.long p1), .second, .val (.long p2), .second] [(.long p2)])) rfl (hb hby d1_7) t k) ?_
    show Goes p e below QQ (s₁.setTop (mkF m 10 #[.val (.long p1), .second, .val (.long p2), .second] [(.long (9223372036854775807 : Int64)), (.long p2)]))
    refine Goes.on (fun t k => XS.lloadN X0.here hx rfl (hb hby d1_10) rfl k) ?_
    show Goes p e below QQ (s₁.setTop (mkF m 11 #[.val (.long p1), .second, .val (.long p2), .second] [(.long p1), (.long (9223372036854775807 : Int64)), (.long p2)]))
    refine Goes.on (fun t k => XS.ldiv X0.here hx rfl (hb hby d1_11) rfl hb1 k) ?_
    show Goes p e below QQ (s₁.setTop (mkF m 12 #[.val (.long p1), .second, .val (.long p2), .second] [(.long ((9223372036854775807 : Int64) / p1)), (.long p2)]))
    refine Goes.on (fun t k => XS.lcmp X0.here hx rfl (hb hby d1_12) rfl k) ?_
    show Goes p e below QQ (s₁.setTop (mkF m 13 #[.val (.long p1), .second, .val (.long p2), .second] [(.int (lcmpW p2 ((9223372036854775807 : Int64) / p1)))]))
    by_cases hb2 : ((9223372036854775807 : Int64) / p1) < p2
    · refine Goes.on (fun t k => XS.ifNo X0.here hx rfl (hb hby d1_13) rfl ((if0 _ _).trans (tlt ((lw_gt p2 ((9223372036854775807 : Int64) / p1)).mpr hb2)).2.2.2) k) ?_
      show Goes p e below QQ (s₁.setTop (mkF m 16 #[.val (.long p1), .second, .val (.long p2), .second] []))
      refine Goes.on (fun t k => X0.ldc2Long hx hown (mvT hZ (hw _ (List.mem_of_getElem? (i := 5) rfl))) (g := (mkF m 16 #[.val (.long p1), .second, .val (.long p2), .second] [])) rfl (hb hby d1_16) t k) ?_
      show Goes p e below QQ (s₁.setTop (mkF m 19 #[.val (.long p1), .second, .val (.long p2), .second] [(.long (9223372036854775807 : Int64))]))
      refine Goes.on (fun t k => XS.goto X0.here hx rfl (pc0 := 19) (pc' := 25) rfl (hb hby d1_19) (by decide) (by decide) k) ?_
      show Goes p e below QQ (s₁.setTop (mkF m 25 #[.val (.long p1), .second, .val (.long p2), .second] [(.long (9223372036854775807 : Int64))]))
      exact Goes.rJ X0 hx hret hlk (hb hby d1_25) hQQ ⟨congrArg (fun z => some (Value.long z)) (((if_neg hb1).trans ((if_pos hb2).trans rfl)) : (satMul p1 p2) = (9223372036854775807 : Int64)).symm, N0, e0⟩ (by decide) (by decide)
    · refine Goes.on (fun t k => XS.ifYes X0.here hx rfl (pc0 := 13) (pc' := 22) rfl (hb hby d1_13) rfl ((if0 _ _).trans (flt (mt (lw_gt p2 ((9223372036854775807 : Int64) / p1)).mp hb2)).2.2.2) (by decide) (by decide) k) ?_
      show Goes p e below QQ (s₁.setTop (mkF m 22 #[.val (.long p1), .second, .val (.long p2), .second] []))
      refine Goes.on (fun t k => XS.lloadN X0.here hx rfl (hb hby d1_22) rfl k) ?_
      show Goes p e below QQ (s₁.setTop (mkF m 23 #[.val (.long p1), .second, .val (.long p2), .second] [(.long p1)]))
      refine Goes.on (fun t k => XS.lloadN X0.here hx rfl (hb hby d1_23) rfl k) ?_
      show Goes p e below QQ (s₁.setTop (mkF m 24 #[.val (.long p1), .second, .val (.long p2), .second] [(.long p2), (.long p1)]))
      refine Goes.on (fun t k => XS.lmul X0.here hx rfl (hb hby d1_24) rfl k) ?_
      show Goes p e below QQ (s₁.setTop (mkF m 25 #[.val (.long p1), .second, .val (.long p2), .second] [(.long (p1 * p2))]))
      exact Goes.rJ X0 hx hret hlk (hb hby d1_25) hQQ ⟨congrArg (fun z => some (Value.long z)) (((if_neg hb1).trans ((if_neg hb2).trans rfl)) : (satMul p1 p2) = (p1 * p2)).symm, N0, e0⟩ (by decide) (by decide)
theorem d2_0 : decode method_2_code 0 = .ok (.lload_n 0, 1) := by decide +kernel
theorem d2_1 : decode method_2_code 1 = .ok (.bipush 32, 2) := by decide +kernel
theorem d2_3 : decode method_2_code 3 = .ok (.lushr, 1) := by decide +kernel
theorem d2_4 : decode method_2_code 4 = .ok (.lstore 4, 2) := by decide +kernel
theorem d2_6 : decode method_2_code 6 = .ok (.lload_n 0, 1) := by decide +kernel
theorem d2_7 : decode method_2_code 7 = .ok (.ldc2_w 7, 3) := by decide +kernel
theorem d2_10 : decode method_2_code 10 = .ok (.land, 1) := by decide +kernel
theorem d2_11 : decode method_2_code 11 = .ok (.lstore 6, 2) := by decide +kernel
theorem d2_13 : decode method_2_code 13 = .ok (.lload_n 2, 1) := by decide +kernel
theorem d2_14 : decode method_2_code 14 = .ok (.bipush 32, 2) := by decide +kernel
theorem d2_16 : decode method_2_code 16 = .ok (.lushr, 1) := by decide +kernel
theorem d2_17 : decode method_2_code 17 = .ok (.lstore 8, 2) := by decide +kernel
theorem d2_19 : decode method_2_code 19 = .ok (.lload_n 2, 1) := by decide +kernel
theorem d2_20 : decode method_2_code 20 = .ok (.ldc2_w 7, 3) := by decide +kernel
theorem d2_23 : decode method_2_code 23 = .ok (.land, 1) := by decide +kernel
theorem d2_24 : decode method_2_code 24 = .ok (.lstore 10, 2) := by decide +kernel
theorem d2_26 : decode method_2_code 26 = .ok (.lload 4, 2) := by decide +kernel
theorem d2_28 : decode method_2_code 28 = .ok (.lconst 0, 1) := by decide +kernel
theorem d2_29 : decode method_2_code 29 = .ok (.lcmp, 1) := by decide +kernel
theorem d2_30 : decode method_2_code 30 = .ok (.ifCond .eq 14, 3) := by decide +kernel
theorem d2_33 : decode method_2_code 33 = .ok (.lload 8, 2) := by decide +kernel
theorem d2_35 : decode method_2_code 35 = .ok (.lconst 0, 1) := by decide +kernel
theorem d2_36 : decode method_2_code 36 = .ok (.lcmp, 1) := by decide +kernel
theorem d2_37 : decode method_2_code 37 = .ok (.ifCond .eq 7, 3) := by decide +kernel
theorem d2_40 : decode method_2_code 40 = .ok (.ldc2_w 11, 3) := by decide +kernel
theorem d2_43 : decode method_2_code 43 = .ok (.lreturn, 1) := by decide +kernel
theorem d2_44 : decode method_2_code 44 = .ok (.lload 4, 2) := by decide +kernel
theorem d2_46 : decode method_2_code 46 = .ok (.lload 10, 2) := by decide +kernel
theorem d2_48 : decode method_2_code 48 = .ok (.lmul, 1) := by decide +kernel
theorem d2_49 : decode method_2_code 49 = .ok (.lload 6, 2) := by decide +kernel
theorem d2_51 : decode method_2_code 51 = .ok (.lload 8, 2) := by decide +kernel
theorem d2_53 : decode method_2_code 53 = .ok (.lmul, 1) := by decide +kernel
theorem d2_54 : decode method_2_code 54 = .ok (.ladd, 1) := by decide +kernel
theorem d2_55 : decode method_2_code 55 = .ok (.lstore 12, 2) := by decide +kernel
theorem d2_57 : decode method_2_code 57 = .ok (.lload 12, 2) := by decide +kernel
theorem d2_59 : decode method_2_code 59 = .ok (.bipush 31, 2) := by decide +kernel
theorem d2_61 : decode method_2_code 61 = .ok (.lushr, 1) := by decide +kernel
theorem d2_62 : decode method_2_code 62 = .ok (.lconst 0, 1) := by decide +kernel
theorem d2_63 : decode method_2_code 63 = .ok (.lcmp, 1) := by decide +kernel
theorem d2_64 : decode method_2_code 64 = .ok (.ifCond .eq 7, 3) := by decide +kernel
theorem d2_67 : decode method_2_code 67 = .ok (.ldc2_w 11, 3) := by decide +kernel
theorem d2_70 : decode method_2_code 70 = .ok (.lreturn, 1) := by decide +kernel
theorem d2_71 : decode method_2_code 71 = .ok (.lload 12, 2) := by decide +kernel
theorem d2_73 : decode method_2_code 73 = .ok (.bipush 32, 2) := by decide +kernel
theorem d2_75 : decode method_2_code 75 = .ok (.lshl, 1) := by decide +kernel
theorem d2_76 : decode method_2_code 76 = .ok (.lstore 14, 2) := by decide +kernel
theorem d2_78 : decode method_2_code 78 = .ok (.lload 6, 2) := by decide +kernel
theorem d2_80 : decode method_2_code 80 = .ok (.lload 10, 2) := by decide +kernel
theorem d2_82 : decode method_2_code 82 = .ok (.lmul, 1) := by decide +kernel
theorem d2_83 : decode method_2_code 83 = .ok (.lstore 16, 2) := by decide +kernel
theorem d2_85 : decode method_2_code 85 = .ok (.lload 16, 2) := by decide +kernel
theorem d2_87 : decode method_2_code 87 = .ok (.lconst 0, 1) := by decide +kernel
theorem d2_88 : decode method_2_code 88 = .ok (.lcmp, 1) := by decide +kernel
theorem d2_89 : decode method_2_code 89 = .ok (.ifCond .ge 7, 3) := by decide +kernel
theorem d2_92 : decode method_2_code 92 = .ok (.ldc2_w 11, 3) := by decide +kernel
theorem d2_95 : decode method_2_code 95 = .ok (.lreturn, 1) := by decide +kernel
theorem d2_96 : decode method_2_code 96 = .ok (.lload 14, 2) := by decide +kernel
theorem d2_98 : decode method_2_code 98 = .ok (.lload 16, 2) := by decide +kernel
theorem d2_100 : decode method_2_code 100 = .ok (.ladd, 1) := by decide +kernel
theorem d2_101 : decode method_2_code 101 = .ok (.lstore 18, 2) := by decide +kernel
theorem d2_103 : decode method_2_code 103 = .ok (.lload 18, 2) := by decide +kernel
theorem d2_105 : decode method_2_code 105 = .ok (.lconst 0, 1) := by decide +kernel
theorem d2_106 : decode method_2_code 106 = .ok (.lcmp, 1) := by decide +kernel
theorem d2_107 : decode method_2_code 107 = .ok (.ifCond .ge 7, 3) := by decide +kernel
theorem d2_110 : decode method_2_code 110 = .ok (.ldc2_w 11, 3) := by decide +kernel
theorem d2_113 : decode method_2_code 113 = .ok (.lreturn, 1) := by decide +kernel
theorem d2_114 : decode method_2_code 114 = .ok (.lload 18, 2) := by decide +kernel
theorem d2_116 : decode method_2_code 116 = .ok (.lreturn, 1) := by decide +kernel
theorem pn_2 : plainFor (⟨"com/example/threadline/threadline/util/SaturatingMultiplyPinLaw", "reference", "(JJ)J"⟩ : MethodName) = true := plainFor_of_name (show plainName "com/example/threadline/threadline/util/SaturatingMultiplyPinLaw" = true by first | (simp [plainName, overriddenIn]; done) | decide +kernel)
theorem ef_rm2 (m : MethodId) (x0 : Int64) (x1 : Int64) : entryFrame m #[(.long x0), (.long x1)] 20 = mkF m 0 #[.val (.long x0), .second, .val (.long x1), .second, .unset, .unset, .unset, .unset, .unset, .unset, .unset, .unset, .unset, .unset, .unset, .unset, .unset, .unset, .unset, .unset] [] := by first | (simp [entryFrame, mkF, argsToLocals, Value.category]; done) | rfl
def refMul_44 (p1 : Int64) (p2 : Int64)  : Int64 := (if ((((((p1.toUInt64 >>> ((32 : Int32) &&& 0x3f).toInt64.toUInt64).toInt64) * (p2 &&& (4294967295 : Int64))) + ((p1 &&& (4294967295 : Int64)) * ((p2.toUInt64 >>> ((32 : Int32) &&& 0x3f).toInt64.toUInt64).toInt64))).toUInt64 >>> ((31 : Int32) &&& 0x3f).toInt64.toUInt64).toInt64) = (0 : Int64) then (if ((p1 &&& (4294967295 : Int64)) * (p2 &&& (4294967295 : Int64))) < (0 : Int64) then (9223372036854775807 : Int64) else (if ((((((p1.toUInt64 >>> ((32 : Int32) &&& 0x3f).toInt64.toUInt64).toInt64) * (p2 &&& (4294967295 : Int64))) + ((p1 &&& (4294967295 : Int64)) * ((p2.toUInt64 >>> ((32 : Int32) &&& 0x3f).toInt64.toUInt64).toInt64))) <<< ((32 : Int32) &&& 0x3f).toInt64) + ((p1 &&& (4294967295 : Int64)) * (p2 &&& (4294967295 : Int64)))) < (0 : Int64) then (9223372036854775807 : Int64) else ((((((p1.toUInt64 >>> ((32 : Int32) &&& 0x3f).toInt64.toUInt64).toInt64) * (p2 &&& (4294967295 : Int64))) + ((p1 &&& (4294967295 : Int64)) * ((p2.toUInt64 >>> ((32 : Int32) &&& 0x3f).toInt64.toUInt64).toInt64))) <<< ((32 : Int32) &&& 0x3f).toInt64) + ((p1 &&& (4294967295 : Int64)) * (p2 &&& (4294967295 : Int64)))))) else (9223372036854775807 : Int64))
def refMul (p1 : Int64) (p2 : Int64) : Int64 := (if ((p1.toUInt64 >>> ((32 : Int32) &&& 0x3f).toInt64.toUInt64).toInt64) = (0 : Int64) then (refMul_44 p1 p2 ) else (if ((p2.toUInt64 >>> ((32 : Int32) &&& 0x3f).toInt64.toUInt64).toInt64) = (0 : Int64) then (refMul_44 p1 p2 ) else (9223372036854775807 : Int64)))
set_option maxRecDepth 65536 in
set_option maxHeartbeats 40000000 in
theorem rm2 (l : Launch) (Z : State) (a0 : Array Value) (hw : ∀ d ∈ tables_1, d.before a0 Z = true) (ws : List Jvm.Cond) (p1 : Int64) (p2 : Int64)  (h0 : Heap) (n0 : Nat) (Z0 : n0 ≤ h0.size)  :
    MetFree l (⟨"com/example/threadline/threadline/util/SaturatingMultiplyPinLaw", "reference", "(JJ)J"⟩ : MethodName) (head1 (Jvm.Cond.code (⟨"com/example/threadline/threadline/util/SaturatingMultiplyPinLaw", "reference", "(JJ)J"⟩ : MethodName) method_2_code 20 (some .long) :: ws) ({ frames := 0, cells := 0, slots := 0, locals := 0 } : Room)) (fun a U => a = #[(.long p1), (.long p2)] ∧ Z.Warmed39 U.vm ∧ U.heap = h0) (fun _ _ _ _ _ => True) (fun _ U o U' => ∃ v L, o = .returned v ∧ QP (.long (refMul p1 p2)) h0 n0 v U'.heap L ∧ FrameEnd U o U' L ({ frames := 0, cells := 0, slots := 0, locals := 0 } : Room).cells ({ frames := 0, cells := 0, slots := 0, locals := 0 } : Room).slots) := by
  refine own_enter pn_2 ?_
  intro p e s m below meth c s₁ QQ hQQ hx hby hml hown hnm hret hlk hZ X0 e0
  have hown : s.vm.findClass "com/example/threadline/threadline/util/SaturatingMultiplyPinLaw" = some m.cls := hown
  have hml : c.maxLocals = 20 := hml
  have hret : meth.sig.returnType = some .long := hret
  have N0 := Fr.nil n0
  have K0 := Keep.refl h0 []
  refine Goes.cast (ef_rm2 m p1 p2) ?_
  show Goes p e below QQ (s₁.setTop (mkF m 0 #[.val (.long p1), .second, .val (.long p2), .second, .unset, .unset, .unset, .unset, .unset, .unset, .unset, .unset, .unset, .unset, .unset, .unset, .unset, .unset, .unset, .unset] []))
  have J44 : ∀  (TJ : State) (lJ : List Loc), Stand p l e ({ frames := 0, cells := 0, slots := 0, locals := 0 } : Room) s m #[(.long p1), (.long p2)] below meth c TJ lJ 0 0 → TJ.heap = h0 → Fr n0 lJ → (refMul p1 p2) = (refMul_44 p1 p2 ) → Goes p e below QQ (TJ.setTop (mkF m 44 #[.val (.long p1), .second, .val (.long p2), .second, .val (.long ((p1.toUInt64 >>> ((32 : Int32) &&& 0x3f).toInt64.toUInt64).toInt64)), .second, .val (.long (p1 &&& (4294967295 : Int64))), .second, .val (.long ((p2.toUInt64 >>> ((32 : Int32) &&& 0x3f).toInt64.toUInt64).toInt64)), .second, .val (.long (p2 &&& (4294967295 : Int64))), .second, .unset, .unset, .unset, .unset, .unset, .unset, .unset, .unset] [])) := by
    intro  TJ lJ XJ eJ NJ hj
    refine Goes.on (fun t k => XS.lload XJ.here hx rfl (hb hby d2_44) rfl k) ?_
    show Goes p e below QQ (TJ.setTop (mkF m 46 #[.val (.long p1), .second, .val (.long p2), .second, .val (.long ((p1.toUInt64 >>> ((32 : Int32) &&& 0x3f).toInt64.toUInt64).toInt64)), .second, .val (.long (p1 &&& (4294967295 : Int64))), .second, .val (.long ((p2.toUInt64 >>> ((32 : Int32) &&& 0x3f).toInt64.toUInt64).toInt64)), .second, .val (.long (p2 &&& (4294967295 : Int64))), .second, .unset, .unset, .unset, .unset, .unset, .unset, .unset, .unset] [(.long ((p1.toUInt64 >>> ((32 : Int32) &&& 0x3f).toInt64.toUInt64).toInt64))]))
    refine Goes.on (fun t k => XS.lload XJ.here hx rfl (hb hby d2_46) rfl k) ?_
    show Goes p e below QQ (TJ.setTop (mkF m 48 #[.val (.long p1), .second, .val (.long p2), .second, .val (.long ((p1.toUInt64 >>> ((32 : Int32) &&& 0x3f).toInt64.toUInt64).toInt64)), .second, .val (.long (p1 &&& (4294967295 : Int64))), .second, .val (.long ((p2.toUInt64 >>> ((32 : Int32) &&& 0x3f).toInt64.toUInt64).toInt64)), .second, .val (.long (p2 &&& (4294967295 : Int64))), .second, .unset, .unset, .unset, .unset, .unset, .unset, .unset, .unset] [(.long (p2 &&& (4294967295 : Int64))), (.long ((p1.toUInt64 >>> ((32 : Int32) &&& 0x3f).toInt64.toUInt64).toInt64))]))
    refine Goes.on (fun t k => XS.lmul XJ.here hx rfl (hb hby d2_48) rfl k) ?_
    show Goes p e below QQ (TJ.setTop (mkF m 49 #[.val (.long p1), .second, .val (.long p2), .second, .val (.long ((p1.toUInt64 >>> ((32 : Int32) &&& 0x3f).toInt64.toUInt64).toInt64)), .second, .val (.long (p1 &&& (4294967295 : Int64))), .second, .val (.long ((p2.toUInt64 >>> ((32 : Int32) &&& 0x3f).toInt64.toUInt64).toInt64)), .second, .val (.long (p2 &&& (4294967295 : Int64))), .second, .unset, .unset, .unset, .unset, .unset, .unset, .unset, .unset] [(.long (((p1.toUInt64 >>> ((32 : Int32) &&& 0x3f).toInt64.toUInt64).toInt64) * (p2 &&& (4294967295 : Int64))))]))
    refine Goes.on (fun t k => XS.lload XJ.here hx rfl (hb hby d2_49) rfl k) ?_
    show Goes p e below QQ (TJ.setTop (mkF m 51 #[.val (.long p1), .second, .val (.long p2), .second, .val (.long ((p1.toUInt64 >>> ((32 : Int32) &&& 0x3f).toInt64.toUInt64).toInt64)), .second, .val (.long (p1 &&& (4294967295 : Int64))), .second, .val (.long ((p2.toUInt64 >>> ((32 : Int32) &&& 0x3f).toInt64.toUInt64).toInt64)), .second, .val (.long (p2 &&& (4294967295 : Int64))), .second, .unset, .unset, .unset, .unset, .unset, .unset, .unset, .unset] [(.long (p1 &&& (4294967295 : Int64))), (.long (((p1.toUInt64 >>> ((32 : Int32) &&& 0x3f).toInt64.toUInt64).toInt64) * (p2 &&& (4294967295 : Int64))))]))
    refine Goes.on (fun t k => XS.lload XJ.here hx rfl (hb hby d2_51) rfl k) ?_
    show Goes p e below QQ (TJ.setTop (mkF m 53 #[.val (.long p1), .second, .val (.long p2), .second, .val (.long ((p1.toUInt64 >>> ((32 : Int32) &&& 0x3f).toInt64.toUInt64).toInt64)), .second, .val (.long (p1 &&& (4294967295 : Int64))), .second, .val (.long ((p2.toUInt64 >>> ((32 : Int32) &&& 0x3f).toInt64.toUInt64).toInt64)), .second, .val (.long (p2 &&& (4294967295 : Int64))), .second, .unset, .unset, .unset, .unset, .unset, .unset, .unset, .unset] [(.long ((p2.toUInt64 >>> ((32 : Int32) &&& 0x3f).toInt64.toUInt64).toInt64)), (.long (p1 &&& (4294967295 : Int64))), (.long (((p1.toUInt64 >>> ((32 : Int32) &&& 0x3f).toInt64.toUInt64).toInt64) * (p2 &&& (4294967295 : Int64))))]))
    refine Goes.on (fun t k => XS.lmul XJ.here hx rfl (hb hby d2_53) rfl k) ?_
    show Goes p e below QQ (TJ.setTop (mkF m 54 #[.val (.long p1), .second, .val (.long p2), .second, .val (.long ((p1.toUInt64 >>> ((32 : Int32) &&& 0x3f).toInt64.toUInt64).toInt64)), .second, .val (.long (p1 &&& (4294967295 : Int64))), .second, .val (.long ((p2.toUInt64 >>> ((32 : Int32) &&& 0x3f).toInt64.toUInt64).toInt64)), .second, .val (.long (p2 &&& (4294967295 : Int64))), .second, .unset, .unset, .unset, .unset, .unset, .unset, .unset, .unset] [(.long ((p1 &&& (4294967295 : Int64)) * ((p2.toUInt64 >>> ((32 : Int32) &&& 0x3f).toInt64.toUInt64).toInt64))), (.long (((p1.toUInt64 >>> ((32 : Int32) &&& 0x3f).toInt64.toUInt64).toInt64) * (p2 &&& (4294967295 : Int64))))]))
    refine Goes.on (fun t k => XS.ladd XJ.here hx rfl (hb hby d2_54) rfl k) ?_
    show Goes p e below QQ (TJ.setTop (mkF m 55 #[.val (.long p1), .second, .val (.long p2), .second, .val (.long ((p1.toUInt64 >>> ((32 : Int32) &&& 0x3f).toInt64.toUInt64).toInt64)), .second, .val (.long (p1 &&& (4294967295 : Int64))), .second, .val (.long ((p2.toUInt64 >>> ((32 : Int32) &&& 0x3f).toInt64.toUInt64).toInt64)), .second, .val (.long (p2 &&& (4294967295 : Int64))), .second, .unset, .unset, .unset, .unset, .unset, .unset, .unset, .unset] [(.long ((((p1.toUInt64 >>> ((32 : Int32) &&& 0x3f).toInt64.toUInt64).toInt64) * (p2 &&& (4294967295 : Int64))) + ((p1 &&& (4294967295 : Int64)) * ((p2.toUInt64 >>> ((32 : Int32) &&& 0x3f).toInt64.toUInt64).toInt64))))]))
    refine Goes.on (fun t k => XS.lstore XJ.here hx rfl (hb hby d2_55) rfl (l' := #[.val (.long p1), .second, .val (.long p2), .second, .val (.long ((p1.toUInt64 >>> ((32 : Int32) &&& 0x3f).toInt64.toUInt64).toInt64)), .second, .val (.long (p1 &&& (4294967295 : Int64))), .second, .val (.long ((p2.toUInt64 >>> ((32 : Int32) &&& 0x3f).toInt64.toUInt64).toInt64)), .second, .val (.long (p2 &&& (4294967295 : Int64))), .second, .val (.long ((((p1.toUInt64 >>> ((32 : Int32) &&& 0x3f).toInt64.toUInt64).toInt64) * (p2 &&& (4294967295 : Int64))) + ((p1 &&& (4294967295 : Int64)) * ((p2.toUInt64 >>> ((32 : Int32) &&& 0x3f).toInt64.toUInt64).toInt64)))), .second, .unset, .unset, .unset, .unset, .unset, .unset]) rfl k) ?_
    show Goes p e below QQ (TJ.setTop (mkF m 57 #[.val (.long p1), .second, .val (.long p2), .second, .val (.long ((p1.toUInt64 >>> ((32 : Int32) &&& 0x3f).toInt64.toUInt64).toInt64)), .second, .val (.long (p1 &&& (4294967295 : Int64))), .second, .val (.long ((p2.toUInt64 >>> ((32 : Int32) &&& 0x3f).toInt64.toUInt64).toInt64)), .second, .val (.long (p2 &&& (4294967295 : Int64))), .second, .val (.long ((((p1.toUInt64 >>> ((32 : Int32) &&& 0x3f).toInt64.toUInt64).toInt64) * (p2 &&& (4294967295 : Int64))) + ((p1 &&& (4294967295 : Int64)) * ((p2.toUInt64 >>> ((32 : Int32) &&& 0x3f).toInt64.toUInt64).toInt64)))), .second, .unset, .unset, .unset, .unset, .unset, .unset] []))
    refine Goes.on (fun t k => XS.lload XJ.here hx rfl (hb hby d2_57) rfl k) ?_
    show Goes p e below QQ (TJ.setTop (mkF m 59 #[.val (.long p1), .second, .val (.long p2), .second, .val (.long ((p1.toUInt64 >>> ((32 : Int32) &&& 0x3f).toInt64.toUInt64).toInt64)), .second, .val (.long (p1 &&& (4294967295 : Int64))), .second, .val (.long ((p2.toUInt64 >>> ((32 : Int32) &&& 0x3f).toInt64.toUInt64).toInt64)), .second, .val (.long (p2 &&& (4294967295 : Int64))), .second, .val (.long ((((p1.toUInt64 >>> ((32 : Int32) &&& 0x3f).toInt64.toUInt64).toInt64) * (p2 &&& (4294967295 : Int64))) + ((p1 &&& (4294967295 : Int64)) * ((p2.toUInt64 >>> ((32 : Int32) &&& 0x3f).toInt64.toUInt64).toInt64)))), .second, .unset, .unset, .unset, .unset, .unset, .unset] [(.long ((((p1.toUInt64 >>> ((32 : Int32) &&& 0x3f).toInt64.toUInt64).toInt64) * (p2 &&& (4294967295 : Int64))) + ((p1 &&& (4294967295 : Int64)) * ((p2.toUInt64 >>> ((32 : Int32) &&& 0x3f).toInt64.toUInt64).toInt64))))]))
    refine Goes.on (fun t k => XS.bipush XJ.here hx rfl (hb hby d2_59) k) ?_
    show Goes p e below QQ (TJ.setTop (mkF m 61 #[.val (.long p1), .second, .val (.long p2), .second, .val (.long ((p1.toUInt64 >>> ((32 : Int32) &&& 0x3f).toInt64.toUInt64).toInt64)), .second, .val (.long (p1 &&& (4294967295 : Int64))), .second, .val (.long ((p2.toUInt64 >>> ((32 : Int32) &&& 0x3f).toInt64.toUInt64).toInt64)), .second, .val (.long (p2 &&& (4294967295 : Int64))), .second, .val (.long ((((p1.toUInt64 >>> ((32 : Int32) &&& 0x3f).toInt64.toUInt64).toInt64) * (p2 &&& (4294967295 : Int64))) + ((p1 &&& (4294967295 : Int64)) * ((p2.toUInt64 >>> ((32 : Int32) &&& 0x3f).toInt64.toUInt64).toInt64)))), .second, .unset, .unset, .unset, .unset, .unset, .unset] [(.int 31), (.long ((((p1.toUInt64 >>> ((32 : Int32) &&& 0x3f).toInt64.toUInt64).toInt64) * (p2 &&& (4294967295 : Int64))) + ((p1 &&& (4294967295 : Int64)) * ((p2.toUInt64 >>> ((32 : Int32) &&& 0x3f).toInt64.toUInt64).toInt64))))]))
    refine Goes.on (fun t k => XS.lushr XJ.here hx rfl (hb hby d2_61) rfl k) ?_
    show Goes p e below QQ (TJ.setTop (mkF m 62 #[.val (.long p1), .second, .val (.long p2), .second, .val (.long ((p1.toUInt64 >>> ((32 : Int32) &&& 0x3f).toInt64.toUInt64).toInt64)), .second, .val (.long (p1 &&& (4294967295 : Int64))), .second, .val (.long ((p2.toUInt64 >>> ((32 : Int32) &&& 0x3f).toInt64.toUInt64).toInt64)), .second, .val (.long (p2 &&& (4294967295 : Int64))), .second, .val (.long ((((p1.toUInt64 >>> ((32 : Int32) &&& 0x3f).toInt64.toUInt64).toInt64) * (p2 &&& (4294967295 : Int64))) + ((p1 &&& (4294967295 : Int64)) * ((p2.toUInt64 >>> ((32 : Int32) &&& 0x3f).toInt64.toUInt64).toInt64)))), .second, .unset, .unset, .unset, .unset, .unset, .unset] [(.long ((((((p1.toUInt64 >>> ((32 : Int32) &&& 0x3f).toInt64.toUInt64).toInt64) * (p2 &&& (4294967295 : Int64))) + ((p1 &&& (4294967295 : Int64)) * ((p2.toUInt64 >>> ((32 : Int32) &&& 0x3f).toInt64.toUInt64).toInt64))).toUInt64 >>> ((31 : Int32) &&& 0x3f).toInt64.toUInt64).toInt64))]))
    refine Goes.on (fun t k => XS.lconst XJ.here hx rfl (hb hby d2_62) k) ?_
    show Goes p e below QQ (TJ.setTop (mkF m 63 #[.val (.long p1), .second, .val (.long p2), .second, .val (.long ((p1.toUInt64 >>> ((32 : Int32) &&& 0x3f).toInt64.toUInt64).toInt64)), .second, .val (.long (p1 &&& (4294967295 : Int64))), .second, .val (.long ((p2.toUInt64 >>> ((32 : Int32) &&& 0x3f).toInt64.toUInt64).toInt64)), .second, .val (.long (p2 &&& (4294967295 : Int64))), .second, .val (.long ((((p1.toUInt64 >>> ((32 : Int32) &&& 0x3f).toInt64.toUInt64).toInt64) * (p2 &&& (4294967295 : Int64))) + ((p1 &&& (4294967295 : Int64)) * ((p2.toUInt64 >>> ((32 : Int32) &&& 0x3f).toInt64.toUInt64).toInt64)))), .second, .unset, .unset, .unset, .unset, .unset, .unset] [(.long (0 : Int64)), (.long ((((((p1.toUInt64 >>> ((32 : Int32) &&& 0x3f).toInt64.toUInt64).toInt64) * (p2 &&& (4294967295 : Int64))) + ((p1 &&& (4294967295 : Int64)) * ((p2.toUInt64 >>> ((32 : Int32) &&& 0x3f).toInt64.toUInt64).toInt64))).toUInt64 >>> ((31 : Int32) &&& 0x3f).toInt64.toUInt64).toInt64))]))
    refine Goes.on (fun t k => XS.lcmp XJ.here hx rfl (hb hby d2_63) rfl k) ?_
    show Goes p e below QQ (TJ.setTop (mkF m 64 #[.val (.long p1), .second, .val (.long p2), .second, .val (.long ((p1.toUInt64 >>> ((32 : Int32) &&& 0x3f).toInt64.toUInt64).toInt64)), .second, .val (.long (p1 &&& (4294967295 : Int64))), .second, .val (.long ((p2.toUInt64 >>> ((32 : Int32) &&& 0x3f).toInt64.toUInt64).toInt64)), .second, .val (.long (p2 &&& (4294967295 : Int64))), .second, .val (.long ((((p1.toUInt64 >>> ((32 : Int32) &&& 0x3f).toInt64.toUInt64).toInt64) * (p2 &&& (4294967295 : Int64))) + ((p1 &&& (4294967295 : Int64)) * ((p2.toUInt64 >>> ((32 : Int32) &&& 0x3f).toInt64.toUInt64).toInt64)))), .second, .unset, .unset, .unset, .unset, .unset, .unset] [(.int (lcmpW ((((((p1.toUInt64 >>> ((32 : Int32) &&& 0x3f).toInt64.toUInt64).toInt64) * (p2 &&& (4294967295 : Int64))) + ((p1 &&& (4294967295 : Int64)) * ((p2.toUInt64 >>> ((32 : Int32) &&& 0x3f).toInt64.toUInt64).toInt64))).toUInt64 >>> ((31 : Int32) &&& 0x3f).toInt64.toUInt64).toInt64) (0 : Int64)))]))
    by_cases hb1 : ((((((p1.toUInt64 >>> ((32 : Int32) &&& 0x3f).toInt64.toUInt64).toInt64) * (p2 &&& (4294967295 : Int64))) + ((p1 &&& (4294967295 : Int64)) * ((p2.toUInt64 >>> ((32 : Int32) &&& 0x3f).toInt64.toUInt64).toInt64))).toUInt64 >>> ((31 : Int32) &&& 0x3f).toInt64.toUInt64).toInt64) = (0 : Int64)
    · refine Goes.on (fun t k => XS.ifYes XJ.here hx rfl (pc0 := 64) (pc' := 71) rfl (hb hby d2_64) rfl ((if0 _ _).trans (teq ((lw_eq ((((((p1.toUInt64 >>> ((32 : Int32) &&& 0x3f).toInt64.toUInt64).toInt64) * (p2 &&& (4294967295 : Int64))) + ((p1 &&& (4294967295 : Int64)) * ((p2.toUInt64 >>> ((32 : Int32) &&& 0x3f).toInt64.toUInt64).toInt64))).toUInt64 >>> ((31 : Int32) &&& 0x3f).toInt64.toUInt64).toInt64) (0 : Int64)).mpr hb1)).1) (by decide) (by decide) k) ?_
      show Goes p e below QQ (TJ.setTop (mkF m 71 #[.val (.long p1), .second, .val (.long p2), .second, .val (.long ((p1.toUInt64 >>> ((32 : Int32) &&& 0x3f).toInt64.toUInt64).toInt64)), .second, .val (.long (p1 &&& (4294967295 : Int64))), .second, .val (.long ((p2.toUInt64 >>> ((32 : Int32) &&& 0x3f).toInt64.toUInt64).toInt64)), .second, .val (.long (p2 &&& (4294967295 : Int64))), .second, .val (.long ((((p1.toUInt64 >>> ((32 : Int32) &&& 0x3f).toInt64.toUInt64).toInt64) * (p2 &&& (4294967295 : Int64))) + ((p1 &&& (4294967295 : Int64)) * ((p2.toUInt64 >>> ((32 : Int32) &&& 0x3f).toInt64.toUInt64).toInt64)))), .second, .unset, .unset, .unset, .unset, .unset, .unset] []))
      refine Goes.on (fun t k => XS.lload XJ.here hx rfl (hb hby d2_71) rfl k) ?_
      show Goes p e below QQ (TJ.setTop (mkF m 73 #[.val (.long p1), .second, .val (.long p2), .second, .val (.long ((p1.toUInt64 >>> ((32 : Int32) &&& 0x3f).toInt64.toUInt64).toInt64)), .second, .val (.long (p1 &&& (4294967295 : Int64))), .second, .val (.long ((p2.toUInt64 >>> ((32 : Int32) &&& 0x3f).toInt64.toUInt64).toInt64)), .second, .val (.long (p2 &&& (4294967295 : Int64))), .second, .val (.long ((((p1.toUInt64 >>> ((32 : Int32) &&& 0x3f).toInt64.toUInt64).toInt64) * (p2 &&& (4294967295 : Int64))) + ((p1 &&& (4294967295 : Int64)) * ((p2.toUInt64 >>> ((32 : Int32) &&& 0x3f).toInt64.toUInt64).toInt64)))), .second, .unset, .unset, .unset, .unset, .unset, .unset] [(.long ((((p1.toUInt64 >>> ((32 : Int32) &&& 0x3f).toInt64.toUInt64).toInt64) * (p2 &&& (4294967295 : Int64))) + ((p1 &&& (4294967295 : Int64)) * ((p2.toUInt64 >>> ((32 : Int32) &&& 0x3f).toInt64.toUInt64).toInt64))))]))
      refine Goes.on (fun t k => XS.bipush XJ.here hx rfl (hb hby d2_73) k) ?_
      show Goes p e below QQ (TJ.setTop (mkF m 75 #[.val (.long p1), .second, .val (.long p2), .second, .val (.long ((p1.toUInt64 >>> ((32 : Int32) &&& 0x3f).toInt64.toUInt64).toInt64)), .second, .val (.long (p1 &&& (4294967295 : Int64))), .second, .val (.long ((p2.toUInt64 >>> ((32 : Int32) &&& 0x3f).toInt64.toUInt64).toInt64)), .second, .val (.long (p2 &&& (4294967295 : Int64))), .second, .val (.long ((((p1.toUInt64 >>> ((32 : Int32) &&& 0x3f).toInt64.toUInt64).toInt64) * (p2 &&& (4294967295 : Int64))) + ((p1 &&& (4294967295 : Int64)) * ((p2.toUInt64 >>> ((32 : Int32) &&& 0x3f).toInt64.toUInt64).toInt64)))), .second, .unset, .unset, .unset, .unset, .unset, .unset] [(.int 32), (.long ((((p1.toUInt64 >>> ((32 : Int32) &&& 0x3f).toInt64.toUInt64).toInt64) * (p2 &&& (4294967295 : Int64))) + ((p1 &&& (4294967295 : Int64)) * ((p2.toUInt64 >>> ((32 : Int32) &&& 0x3f).toInt64.toUInt64).toInt64))))]))
      refine Goes.on (fun t k => XS.lshl XJ.here hx rfl (hb hby d2_75) rfl k) ?_
      show Goes p e below QQ (TJ.setTop (mkF m 76 #[.val (.long p1), .second, .val (.long p2), .second, .val (.long ((p1.toUInt64 >>> ((32 : Int32) &&& 0x3f).toInt64.toUInt64).toInt64)), .second, .val (.long (p1 &&& (4294967295 : Int64))), .second, .val (.long ((p2.toUInt64 >>> ((32 : Int32) &&& 0x3f).toInt64.toUInt64).toInt64)), .second, .val (.long (p2 &&& (4294967295 : Int64))), .second, .val (.long ((((p1.toUInt64 >>> ((32 : Int32) &&& 0x3f).toInt64.toUInt64).toInt64) * (p2 &&& (4294967295 : Int64))) + ((p1 &&& (4294967295 : Int64)) * ((p2.toUInt64 >>> ((32 : Int32) &&& 0x3f).toInt64.toUInt64).toInt64)))), .second, .unset, .unset, .unset, .unset, .unset, .unset] [(.long (((((p1.toUInt64 >>> ((32 : Int32) &&& 0x3f).toInt64.toUInt64).toInt64) * (p2 &&& (4294967295 : Int64))) + ((p1 &&& (4294967295 : Int64)) * ((p2.toUInt64 >>> ((32 : Int32) &&& 0x3f).toInt64.toUInt64).toInt64))) <<< ((32 : Int32) &&& 0x3f).toInt64))]))
      refine Goes.on (fun t k => XS.lstore XJ.here hx rfl (hb hby d2_76) rfl (l' := #[.val (.long p1), .second, .val (.long p2), .second, .val (.long ((p1.toUInt64 >>> ((32 : Int32) &&& 0x3f).toInt64.toUInt64).toInt64)), .second, .val (.long (p1 &&& (4294967295 : Int64))), .second, .val (.long ((p2.toUInt64 >>> ((32 : Int32) &&& 0x3f).toInt64.toUInt64).toInt64)), .second, .val (.long (p2 &&& (4294967295 : Int64))), .second, .val (.long ((((p1.toUInt64 >>> ((32 : Int32) &&& 0x3f).toInt64.toUInt64).toInt64) * (p2 &&& (4294967295 : Int64))) + ((p1 &&& (4294967295 : Int64)) * ((p2.toUInt64 >>> ((32 : Int32) &&& 0x3f).toInt64.toUInt64).toInt64)))), .second, .val (.long (((((p1.toUInt64 >>> ((32 : Int32) &&& 0x3f).toInt64.toUInt64).toInt64) * (p2 &&& (4294967295 : Int64))) + ((p1 &&& (4294967295 : Int64)) * ((p2.toUInt64 >>> ((32 : Int32) &&& 0x3f).toInt64.toUInt64).toInt64))) <<< ((32 : Int32) &&& 0x3f).toInt64)), .second, .unset, .unset, .unset, .unset]) rfl k) ?_
      show Goes p e below QQ (TJ.setTop (mkF m 78 #[.val (.long p1), .second, .val (.long p2), .second, .val (.long ((p1.toUInt64 >>> ((32 : Int32) &&& 0x3f).toInt64.toUInt64).toInt64)), .second, .val (.long (p1 &&& (4294967295 : Int64))), .second, .val (.long ((p2.toUInt64 >>> ((32 : Int32) &&& 0x3f).toInt64.toUInt64).toInt64)), .second, .val (.long (p2 &&& (4294967295 : Int64))), .second, .val (.long ((((p1.toUInt64 >>> ((32 : Int32) &&& 0x3f).toInt64.toUInt64).toInt64) * (p2 &&& (4294967295 : Int64))) + ((p1 &&& (4294967295 : Int64)) * ((p2.toUInt64 >>> ((32 : Int32) &&& 0x3f).toInt64.toUInt64).toInt64)))), .second, .val (.long (((((p1.toUInt64 >>> ((32 : Int32) &&& 0x3f).toInt64.toUInt64).toInt64) * (p2 &&& (4294967295 : Int64))) + ((p1 &&& (4294967295 : Int64)) * ((p2.toUInt64 >>> ((32 : Int32) &&& 0x3f).toInt64.toUInt64).toInt64))) <<< ((32 : Int32) &&& 0x3f).toInt64)), .second, .unset, .unset, .unset, .unset] []))
      refine Goes.on (fun t k => XS.lload XJ.here hx rfl (hb hby d2_78) rfl k) ?_
      show Goes p e below QQ (TJ.setTop (mkF m 80 #[.val (.long p1), .second, .val (.long p2), .second, .val (.long ((p1.toUInt64 >>> ((32 : Int32) &&& 0x3f).toInt64.toUInt64).toInt64)), .second, .val (.long (p1 &&& (4294967295 : Int64))), .second, .val (.long ((p2.toUInt64 >>> ((32 : Int32) &&& 0x3f).toInt64.toUInt64).toInt64)), .second, .val (.long (p2 &&& (4294967295 : Int64))), .second, .val (.long ((((p1.toUInt64 >>> ((32 : Int32) &&& 0x3f).toInt64.toUInt64).toInt64) * (p2 &&& (4294967295 : Int64))) + ((p1 &&& (4294967295 : Int64)) * ((p2.toUInt64 >>> ((32 : Int32) &&& 0x3f).toInt64.toUInt64).toInt64)))), .second, .val (.long (((((p1.toUInt64 >>> ((32 : Int32) &&& 0x3f).toInt64.toUInt64).toInt64) * (p2 &&& (4294967295 : Int64))) + ((p1 &&& (4294967295 : Int64)) * ((p2.toUInt64 >>> ((32 : Int32) &&& 0x3f).toInt64.toUInt64).toInt64))) <<< ((32 : Int32) &&& 0x3f).toInt64)), .second, .unset, .unset, .unset, .unset] [(.long (p1 &&& (4294967295 : Int64)))]))
      refine Goes.on (fun t k => XS.lload XJ.here hx rfl (hb hby d2_80) rfl k) ?_
      show Goes p e below QQ (TJ.setTop (mkF m 82 #[.val (.long p1), .second, .val (.long p2), .second, .val (.long ((p1.toUInt64 >>> ((32 : Int32) &&& 0x3f).toInt64.toUInt64).toInt64)), .second, .val (.long (p1 &&& (4294967295 : Int64))), .second, .val (.long ((p2.toUInt64 >>> ((32 : Int32) &&& 0x3f).toInt64.toUInt64).toInt64)), .second, .val (.long (p2 &&& (4294967295 : Int64))), .second, .val (.long ((((p1.toUInt64 >>> ((32 : Int32) &&& 0x3f).toInt64.toUInt64).toInt64) * (p2 &&& (4294967295 : Int64))) + ((p1 &&& (4294967295 : Int64)) * ((p2.toUInt64 >>> ((32 : Int32) &&& 0x3f).toInt64.toUInt64).toInt64)))), .second, .val (.long (((((p1.toUInt64 >>> ((32 : Int32) &&& 0x3f).toInt64.toUInt64).toInt64) * (p2 &&& (4294967295 : Int64))) + ((p1 &&& (4294967295 : Int64)) * ((p2.toUInt64 >>> ((32 : Int32) &&& 0x3f).toInt64.toUInt64).toInt64))) <<< ((32 : Int32) &&& 0x3f).toInt64)), .second, .unset, .unset, .unset, .unset] [(.long (p2 &&& (4294967295 : Int64))), (.long (p1 &&& (4294967295 : Int64)))]))
      refine Goes.on (fun t k => XS.lmul XJ.here hx rfl (hb hby d2_82) rfl k) ?_
      show Goes p e below QQ (TJ.setTop (mkF m 83 #[.val (.long p1), .second, .val (.long p2), .second, .val (.long ((p1.toUInt64 >>> ((32 : Int32) &&& 0x3f).toInt64.toUInt64).toInt64)), .second, .val (.long (p1 &&& (4294967295 : Int64))), .second, .val (.long ((p2.toUInt64 >>> ((32 : Int32) &&& 0x3f).toInt64.toUInt64).toInt64)), .second, .val (.long (p2 &&& (4294967295 : Int64))), .second, .val (.long ((((p1.toUInt64 >>> ((32 : Int32) &&& 0x3f).toInt64.toUInt64).toInt64) * (p2 &&& (4294967295 : Int64))) + ((p1 &&& (4294967295 : Int64)) * ((p2.toUInt64 >>> ((32 : Int32) &&& 0x3f).toInt64.toUInt64).toInt64)))), .second, .val (.long (((((p1.toUInt64 >>> ((32 : Int32) &&& 0x3f).toInt64.toUInt64).toInt64) * (p2 &&& (4294967295 : Int64))) + ((p1 &&& (4294967295 : Int64)) * ((p2.toUInt64 >>> ((32 : Int32) &&& 0x3f).toInt64.toUInt64).toInt64))) <<< ((32 : Int32) &&& 0x3f).toInt64)), .second, .unset, .unset, .unset, .unset] [(.long ((p1 &&& (4294967295 : Int64)) * (p2 &&& (4294967295 : Int64))))]))
      refine Goes.on (fun t k => XS.lstore XJ.here hx rfl (hb hby d2_83) rfl (l' := #[.val (.long p1), .second, .val (.long p2), .second, .val (.long ((p1.toUInt64 >>> ((32 : Int32) &&& 0x3f).toInt64.toUInt64).toInt64)), .second, .val (.long (p1 &&& (4294967295 : Int64))), .second, .val (.long ((p2.toUInt64 >>> ((32 : Int32) &&& 0x3f).toInt64.toUInt64).toInt64)), .second, .val (.long (p2 &&& (4294967295 : Int64))), .second, .val (.long ((((p1.toUInt64 >>> ((32 : Int32) &&& 0x3f).toInt64.toUInt64).toInt64) * (p2 &&& (4294967295 : Int64))) + ((p1 &&& (4294967295 : Int64)) * ((p2.toUInt64 >>> ((32 : Int32) &&& 0x3f).toInt64.toUInt64).toInt64)))), .second, .val (.long (((((p1.toUInt64 >>> ((32 : Int32) &&& 0x3f).toInt64.toUInt64).toInt64) * (p2 &&& (4294967295 : Int64))) + ((p1 &&& (4294967295 : Int64)) * ((p2.toUInt64 >>> ((32 : Int32) &&& 0x3f).toInt64.toUInt64).toInt64))) <<< ((32 : Int32) &&& 0x3f).toInt64)), .second, .val (.long ((p1 &&& (4294967295 : Int64)) * (p2 &&& (4294967295 : Int64)))), .second, .unset, .unset]) rfl k) ?_
      show Goes p e below QQ (TJ.setTop (mkF m 85 #[.val (.long p1), .second, .val (.long p2), .second, .val (.long ((p1.toUInt64 >>> ((32 : Int32) &&& 0x3f).toInt64.toUInt64).toInt64)), .second, .val (.long (p1 &&& (4294967295 : Int64))), .second, .val (.long ((p2.toUInt64 >>> ((32 : Int32) &&& 0x3f).toInt64.toUInt64).toInt64)), .second, .val (.long (p2 &&& (4294967295 : Int64))), .second, .val (.long ((((p1.toUInt64 >>> ((32 : Int32) &&& 0x3f).toInt64.toUInt64).toInt64) * (p2 &&& (4294967295 : Int64))) + ((p1 &&& (4294967295 : Int64)) * ((p2.toUInt64 >>> ((32 : Int32) &&& 0x3f).toInt64.toUInt64).toInt64)))), .second, .val (.long (((((p1.toUInt64 >>> ((32 : Int32) &&& 0x3f).toInt64.toUInt64).toInt64) * (p2 &&& (4294967295 : Int64))) + ((p1 &&& (4294967295 : Int64)) * ((p2.toUInt64 >>> ((32 : Int32) &&& 0x3f).toInt64.toUInt64).toInt64))) <<< ((32 : Int32) &&& 0x3f).toInt64)), .second, .val (.long ((p1 &&& (4294967295 : Int64)) * (p2 &&& (4294967295 : Int64)))), .second, .unset, .unset] []))
      refine Goes.on (fun t k => XS.lload XJ.here hx rfl (hb hby d2_85) rfl k) ?_
      show Goes p e below QQ (TJ.setTop (mkF m 87 #[.val (.long p1), .second, .val (.long p2), .second, .val (.long ((p1.toUInt64 >>> ((32 : Int32) &&& 0x3f).toInt64.toUInt64).toInt64)), .second, .val (.long (p1 &&& (4294967295 : Int64))), .second, .val (.long ((p2.toUInt64 >>> ((32 : Int32) &&& 0x3f).toInt64.toUInt64).toInt64)), .second, .val (.long (p2 &&& (4294967295 : Int64))), .second, .val (.long ((((p1.toUInt64 >>> ((32 : Int32) &&& 0x3f).toInt64.toUInt64).toInt64) * (p2 &&& (4294967295 : Int64))) + ((p1 &&& (4294967295 : Int64)) * ((p2.toUInt64 >>> ((32 : Int32) &&& 0x3f).toInt64.toUInt64).toInt64)))), .second, .val (.long (((((p1.toUInt64 >>> ((32 : Int32) &&& 0x3f).toInt64.toUInt64).toInt64) * (p2 &&& (4294967295 : Int64))) + ((p1 &&& (4294967295 : Int64)) * ((p2.toUInt64 >>> ((32 : Int32) &&& 0x3f).toInt64.toUInt64).toInt64))) <<< ((32 : Int32) &&& 0x3f).toInt64)), .second, .val (.long ((p1 &&& (4294967295 : Int64)) * (p2 &&& (4294967295 : Int64)))), .second, .unset, .unset] [(.long ((p1 &&& (4294967295 : Int64)) * (p2 &&& (4294967295 : Int64))))]))
      refine Goes.on (fun t k => XS.lconst XJ.here hx rfl (hb hby d2_87) k) ?_
      show Goes p e below QQ (TJ.setTop (mkF m 88 #[.val (.long p1), .second, .val (.long p2), .second, .val (.long ((p1.toUInt64 >>> ((32 : Int32) &&& 0x3f).toInt64.toUInt64).toInt64)), .second, .val (.long (p1 &&& (4294967295 : Int64))), .second, .val (.long ((p2.toUInt64 >>> ((32 : Int32) &&& 0x3f).toInt64.toUInt64).toInt64)), .second, .val (.long (p2 &&& (4294967295 : Int64))), .second, .val (.long ((((p1.toUInt64 >>> ((32 : Int32) &&& 0x3f).toInt64.toUInt64).toInt64) * (p2 &&& (4294967295 : Int64))) + ((p1 &&& (4294967295 : Int64)) * ((p2.toUInt64 >>> ((32 : Int32) &&& 0x3f).toInt64.toUInt64).toInt64)))), .second, .val (.long (((((p1.toUInt64 >>> ((32 : Int32) &&& 0x3f).toInt64.toUInt64).toInt64) * (p2 &&& (4294967295 : Int64))) + ((p1 &&& (4294967295 : Int64)) * ((p2.toUInt64 >>> ((32 : Int32) &&& 0x3f).toInt64.toUInt64).toInt64))) <<< ((32 : Int32) &&& 0x3f).toInt64)), .second, .val (.long ((p1 &&& (4294967295 : Int64)) * (p2 &&& (4294967295 : Int64)))), .second, .unset, .unset] [(.long (0 : Int64)), (.long ((p1 &&& (4294967295 : Int64)) * (p2 &&& (4294967295 : Int64))))]))
      refine Goes.on (fun t k => XS.lcmp XJ.here hx rfl (hb hby d2_88) rfl k) ?_
      show Goes p e below QQ (TJ.setTop (mkF m 89 #[.val (.long p1), .second, .val (.long p2), .second, .val (.long ((p1.toUInt64 >>> ((32 : Int32) &&& 0x3f).toInt64.toUInt64).toInt64)), .second, .val (.long (p1 &&& (4294967295 : Int64))), .second, .val (.long ((p2.toUInt64 >>> ((32 : Int32) &&& 0x3f).toInt64.toUInt64).toInt64)), .second, .val (.long (p2 &&& (4294967295 : Int64))), .second, .val (.long ((((p1.toUInt64 >>> ((32 : Int32) &&& 0x3f).toInt64.toUInt64).toInt64) * (p2 &&& (4294967295 : Int64))) + ((p1 &&& (4294967295 : Int64)) * ((p2.toUInt64 >>> ((32 : Int32) &&& 0x3f).toInt64.toUInt64).toInt64)))), .second, .val (.long (((((p1.toUInt64 >>> ((32 : Int32) &&& 0x3f).toInt64.toUInt64).toInt64) * (p2 &&& (4294967295 : Int64))) + ((p1 &&& (4294967295 : Int64)) * ((p2.toUInt64 >>> ((32 : Int32) &&& 0x3f).toInt64.toUInt64).toInt64))) <<< ((32 : Int32) &&& 0x3f).toInt64)), .second, .val (.long ((p1 &&& (4294967295 : Int64)) * (p2 &&& (4294967295 : Int64)))), .second, .unset, .unset] [(.int (lcmpW ((p1 &&& (4294967295 : Int64)) * (p2 &&& (4294967295 : Int64))) (0 : Int64)))]))
      by_cases hb2 : ((p1 &&& (4294967295 : Int64)) * (p2 &&& (4294967295 : Int64))) < (0 : Int64)
      · refine Goes.on (fun t k => XS.ifNo XJ.here hx rfl (hb hby d2_89) rfl ((if0 _ _).trans (tlt ((lw_lt ((p1 &&& (4294967295 : Int64)) * (p2 &&& (4294967295 : Int64))) (0 : Int64)).mpr hb2)).2.1) k) ?_
        show Goes p e below QQ (TJ.setTop (mkF m 92 #[.val (.long p1), .second, .val (.long p2), .second, .val (.long ((p1.toUInt64 >>> ((32 : Int32) &&& 0x3f).toInt64.toUInt64).toInt64)), .second, .val (.long (p1 &&& (4294967295 : Int64))), .second, .val (.long ((p2.toUInt64 >>> ((32 : Int32) &&& 0x3f).toInt64.toUInt64).toInt64)), .second, .val (.long (p2 &&& (4294967295 : Int64))), .second, .val (.long ((((p1.toUInt64 >>> ((32 : Int32) &&& 0x3f).toInt64.toUInt64).toInt64) * (p2 &&& (4294967295 : Int64))) + ((p1 &&& (4294967295 : Int64)) * ((p2.toUInt64 >>> ((32 : Int32) &&& 0x3f).toInt64.toUInt64).toInt64)))), .second, .val (.long (((((p1.toUInt64 >>> ((32 : Int32) &&& 0x3f).toInt64.toUInt64).toInt64) * (p2 &&& (4294967295 : Int64))) + ((p1 &&& (4294967295 : Int64)) * ((p2.toUInt64 >>> ((32 : Int32) &&& 0x3f).toInt64.toUInt64).toInt64))) <<< ((32 : Int32) &&& 0x3f).toInt64)), .second, .val (.long ((p1 &&& (4294967295 : Int64)) * (p2 &&& (4294967295 : Int64)))), .second, .unset, .unset] []))
        refine Goes.on (fun t k => XJ.ldc2Long hx hown (mvT hZ (hw _ (List.mem_of_getElem? (i := 0) rfl))) (g := (mkF m 92 #[.val (.long p1), .second, .val (.long p2), .second, .val (.long ((p1.toUInt64 >>> ((32 : Int32) &&& 0x3f).toInt64.toUInt64).toInt64)), .second, .val (.long (p1 &&& (4294967295 : Int64))), .second, .val (.long ((p2.toUInt64 >>> ((32 : Int32) &&& 0x3f).toInt64.toUInt64).toInt64)), .second, .val (.long (p2 &&& (4294967295 : Int64))), .second, .val (.long ((((p1.toUInt64 >>> ((32 : Int32) &&& 0x3f).toInt64.toUInt64).toInt64) * (p2 &&& (4294967295 : Int64))) + ((p1 &&& (4294967295 : Int64)) * ((p2.toUInt64 >>> ((32 : Int32) &&& 0x3f).toInt64.toUInt64).toInt64)))), .second, .val (.long (((((p1.toUInt64 >>> ((32 : Int32) &&& 0x3f).toInt64.toUInt64).toInt64) * (p2 &&& (4294967295 : Int64))) + ((p1 &&& (4294967295 : Int64)) * ((p2.toUInt64 >>> ((32 : Int32) &&& 0x3f).toInt64.toUInt64).toInt64))) <<< ((32 : Int32) &&& 0x3f).toInt64)), .second, .val (.long ((p1 &&& (4294967295 : Int64)) * (p2 &&& (4294967295 : Int64)))), .second, .unset, .unset] [])) rfl (hb hby d2_92) t k) ?_
        show Goes p e below QQ (TJ.setTop (mkF m 95 #[.val (.long p1), .second, .val (.long p2), .second, .val (.long ((p1.toUInt64 >>> ((32 : Int32) &&& 0x3f).toInt64.toUInt64).toInt64)), .second, .val (.long (p1 &&& (4294967295 : Int64))), .second, .val (.long ((p2.toUInt64 >>> ((32 : Int32) &&& 0x3f).toInt64.toUInt64).toInt64)), .second, .val (.long (p2 &&& (4294967295 : Int64))), .second, .val (.long ((((p1.toUInt64 >>> ((32 : Int32) &&& 0x3f).toInt64.toUInt64).toInt64) * (p2 &&& (4294967295 : Int64))) + ((p1 &&& (4294967295 : Int64)) * ((p2.toUInt64 >>> ((32 : Int32) &&& 0x3f).toInt64.toUInt64).toInt64)))), .second, .val (.long (((((p1.toUInt64 >>> ((32 : Int32) &&& 0x3f).toInt64.toUInt64).toInt64) * (p2 &&& (4294967295 : Int64))) + ((p1 &&& (4294967295 : Int64)) * ((p2.toUInt64 >>> ((32 : Int32) &&& 0x3f).toInt64.toUInt64).toInt64))) <<< ((32 : Int32) &&& 0x3f).toInt64)), .second, .val (.long ((p1 &&& (4294967295 : Int64)) * (p2 &&& (4294967295 : Int64)))), .second, .unset, .unset] [(.long (9223372036854775807 : Int64))]))
        exact Goes.rJ XJ hx hret hlk (hb hby d2_95) hQQ ⟨congrArg (fun z => some (Value.long z)) ((hj.trans ((if_pos hb1).trans ((if_pos hb2).trans rfl))) : (refMul p1 p2) = (9223372036854775807 : Int64)).symm, NJ, eJ⟩ (by decide) (by decide)
      · refine Goes.on (fun t k => XS.ifYes XJ.here hx rfl (pc0 := 89) (pc' := 96) rfl (hb hby d2_89) rfl ((if0 _ _).trans (flt (mt (lw_lt ((p1 &&& (4294967295 : Int64)) * (p2 &&& (4294967295 : Int64))) (0 : Int64)).mp hb2)).2.1) (by decide) (by decide) k) ?_
        show Goes p e below QQ (TJ.setTop (mkF m 96 #[.val (.long p1), .second, .val (.long p2), .second, .val (.long ((p1.toUInt64 >>> ((32 : Int32) &&& 0x3f).toInt64.toUInt64).toInt64)), .second, .val (.long (p1 &&& (4294967295 : Int64))), .second, .val (.long ((p2.toUInt64 >>> ((32 : Int32) &&& 0x3f).toInt64.toUInt64).toInt64)), .second, .val (.long (p2 &&& (4294967295 : Int64))), .second, .val (.long ((((p1.toUInt64 >>> ((32 : Int32) &&& 0x3f).toInt64.toUInt64).toInt64) * (p2 &&& (4294967295 : Int64))) + ((p1 &&& (4294967295 : Int64)) * ((p2.toUInt64 >>> ((32 : Int32) &&& 0x3f).toInt64.toUInt64).toInt64)))), .second, .val (.long (((((p1.toUInt64 >>> ((32 : Int32) &&& 0x3f).toInt64.toUInt64).toInt64) * (p2 &&& (4294967295 : Int64))) + ((p1 &&& (4294967295 : Int64)) * ((p2.toUInt64 >>> ((32 : Int32) &&& 0x3f).toInt64.toUInt64).toInt64))) <<< ((32 : Int32) &&& 0x3f).toInt64)), .second, .val (.long ((p1 &&& (4294967295 : Int64)) * (p2 &&& (4294967295 : Int64)))), .second, .unset, .unset] []))
        refine Goes.on (fun t k => XS.lload XJ.here hx rfl (hb hby d2_96) rfl k) ?_
        show Goes p e below QQ (TJ.setTop (mkF m 98 #[.val (.long p1), .second, .val (.long p2), .second, .val (.long ((p1.toUInt64 >>> ((32 : Int32) &&& 0x3f).toInt64.toUInt64).toInt64)), .second, .val (.long (p1 &&& (4294967295 : Int64))), .second, .val (.long ((p2.toUInt64 >>> ((32 : Int32) &&& 0x3f).toInt64.toUInt64).toInt64)), .second, .val (.long (p2 &&& (4294967295 : Int64))), .second, .val (.long ((((p1.toUInt64 >>> ((32 : Int32) &&& 0x3f).toInt64.toUInt64).toInt64) * (p2 &&& (4294967295 : Int64))) + ((p1 &&& (4294967295 : Int64)) * ((p2.toUInt64 >>> ((32 : Int32) &&& 0x3f).toInt64.toUInt64).toInt64)))), .second, .val (.long (((((p1.toUInt64 >>> ((32 : Int32) &&& 0x3f).toInt64.toUInt64).toInt64) * (p2 &&& (4294967295 : Int64))) + ((p1 &&& (4294967295 : Int64)) * ((p2.toUInt64 >>> ((32 : Int32) &&& 0x3f).toInt64.toUInt64).toInt64))) <<< ((32 : Int32) &&& 0x3f).toInt64)), .second, .val (.long ((p1 &&& (4294967295 : Int64)) * (p2 &&& (4294967295 : Int64)))), .second, .unset, .unset] [(.long (((((p1.toUInt64 >>> ((32 : Int32) &&& 0x3f).toInt64.toUInt64).toInt64) * (p2 &&& (4294967295 : Int64))) + ((p1 &&& (4294967295 : Int64)) * ((p2.toUInt64 >>> ((32 : Int32) &&& 0x3f).toInt64.toUInt64).toInt64))) <<< ((32 : Int32) &&& 0x3f).toInt64))]))
        refine Goes.on (fun t k => XS.lload XJ.here hx rfl (hb hby d2_98) rfl k) ?_
        show Goes p e below QQ (TJ.setTop (mkF m 100 #[.val (.long p1), .second, .val (.long p2), .second, .val (.long ((p1.toUInt64 >>> ((32 : Int32) &&& 0x3f).toInt64.toUInt64).toInt64)), .second, .val (.long (p1 &&& (4294967295 : Int64))), .second, .val (.long ((p2.toUInt64 >>> ((32 : Int32) &&& 0x3f).toInt64.toUInt64).toInt64)), .second, .val (.long (p2 &&& (4294967295 : Int64))), .second, .val (.long ((((p1.toUInt64 >>> ((32 : Int32) &&& 0x3f).toInt64.toUInt64).toInt64) * (p2 &&& (4294967295 : Int64))) + ((p1 &&& (4294967295 : Int64)) * ((p2.toUInt64 >>> ((32 : Int32) &&& 0x3f).toInt64.toUInt64).toInt64)))), .second, .val (.long (((((p1.toUInt64 >>> ((32 : Int32) &&& 0x3f).toInt64.toUInt64).toInt64) * (p2 &&& (4294967295 : Int64))) + ((p1 &&& (4294967295 : Int64)) * ((p2.toUInt64 >>> ((32 : Int32) &&& 0x3f).toInt64.toUInt64).toInt64))) <<< ((32 : Int32) &&& 0x3f).toInt64)), .second, .val (.long ((p1 &&& (4294967295 : Int64)) * (p2 &&& (4294967295 : Int64)))), .second, .unset, .unset] [(.long ((p1 &&& (4294967295 : Int64)) * (p2 &&& (4294967295 : Int64)))), (.long (((((p1.toUInt64 >>> ((32 : Int32) &&& 0x3f).toInt64.toUInt64).toInt64) * (p2 &&& (4294967295 : Int64))) + ((p1 &&& (4294967295 : Int64)) * ((p2.toUInt64 >>> ((32 : Int32) &&& 0x3f).toInt64.toUInt64).toInt64))) <<< ((32 : Int32) &&& 0x3f).toInt64))]))
        refine Goes.on (fun t k => XS.ladd XJ.here hx rfl (hb hby d2_100) rfl k) ?_
        show Goes p e below QQ (TJ.setTop (mkF m 101 #[.val (.long p1), .second, .val (.long p2), .second, .val (.long ((p1.toUInt64 >>> ((32 : Int32) &&& 0x3f).toInt64.toUInt64).toInt64)), .second, .val (.long (p1 &&& (4294967295 : Int64))), .second, .val (.long ((p2.toUInt64 >>> ((32 : Int32) &&& 0x3f).toInt64.toUInt64).toInt64)), .second, .val (.long (p2 &&& (4294967295 : Int64))), .second, .val (.long ((((p1.toUInt64 >>> ((32 : Int32) &&& 0x3f).toInt64.toUInt64).toInt64) * (p2 &&& (4294967295 : Int64))) + ((p1 &&& (4294967295 : Int64)) * ((p2.toUInt64 >>> ((32 : Int32) &&& 0x3f).toInt64.toUInt64).toInt64)))), .second, .val (.long (((((p1.toUInt64 >>> ((32 : Int32) &&& 0x3f).toInt64.toUInt64).toInt64) * (p2 &&& (4294967295 : Int64))) + ((p1 &&& (4294967295 : Int64)) * ((p2.toUInt64 >>> ((32 : Int32) &&& 0x3f).toInt64.toUInt64).toInt64))) <<< ((32 : Int32) &&& 0x3f).toInt64)), .second, .val (.long ((p1 &&& (4294967295 : Int64)) * (p2 &&& (4294967295 : Int64)))), .second, .unset, .unset] [(.long ((((((p1.toUInt64 >>> ((32 : Int32) &&& 0x3f).toInt64.toUInt64).toInt64) * (p2 &&& (4294967295 : Int64))) + ((p1 &&& (4294967295 : Int64)) * ((p2.toUInt64 >>> ((32 : Int32) &&& 0x3f).toInt64.toUInt64).toInt64))) <<< ((32 : Int32) &&& 0x3f).toInt64) + ((p1 &&& (4294967295 : Int64)) * (p2 &&& (4294967295 : Int64)))))]))
        refine Goes.on (fun t k => XS.lstore XJ.here hx rfl (hb hby d2_101) rfl (l' := #[.val (.long p1), .second, .val (.long p2), .second, .val (.long ((p1.toUInt64 >>> ((32 : Int32) &&& 0x3f).toInt64.toUInt64).toInt64)), .second, .val (.long (p1 &&& (4294967295 : Int64))), .second, .val (.long ((p2.toUInt64 >>> ((32 : Int32) &&& 0x3f).toInt64.toUInt64).toInt64)), .second, .val (.long (p2 &&& (4294967295 : Int64))), .second, .val (.long ((((p1.toUInt64 >>> ((32 : Int32) &&& 0x3f).toInt64.toUInt64).toInt64) * (p2 &&& (4294967295 : Int64))) + ((p1 &&& (4294967295 : Int64)) * ((p2.toUInt64 >>> ((32 : Int32) &&& 0x3f).toInt64.toUInt64).toInt64)))), .second, .val (.long (((((p1.toUInt64 >>> ((32 : Int32) &&& 0x3f).toInt64.toUInt64).toInt64) * (p2 &&& (4294967295 : Int64))) + ((p1 &&& (4294967295 : Int64)) * ((p2.toUInt64 >>> ((32 : Int32) &&& 0x3f).toInt64.toUInt64).toInt64))) <<< ((32 : Int32) &&& 0x3f).toInt64)), .second, .val (.long ((p1 &&& (4294967295 : Int64)) * (p2 &&& (4294967295 : Int64)))), .second, .val (.long ((((((p1.toUInt64 >>> ((32 : Int32) &&& 0x3f).toInt64.toUInt64).toInt64) * (p2 &&& (4294967295 : Int64))) + ((p1 &&& (4294967295 : Int64)) * ((p2.toUInt64 >>> ((32 : Int32) &&& 0x3f).toInt64.toUInt64).toInt64))) <<< ((32 : Int32) &&& 0x3f).toInt64) + ((p1 &&& (4294967295 : Int64)) * (p2 &&& (4294967295 : Int64))))), .second]) rfl k) ?_
        show Goes p e below QQ (TJ.setTop (mkF m 103 #[.val (.long p1), .second, .val (.long p2), .second, .val (.long ((p1.toUInt64 >>> ((32 : Int32) &&& 0x3f).toInt64.toUInt64).toInt64)), .second, .val (.long (p1 &&& (4294967295 : Int64))), .second, .val (.long ((p2.toUInt64 >>> ((32 : Int32) &&& 0x3f).toInt64.toUInt64).toInt64)), .second, .val (.long (p2 &&& (4294967295 : Int64))), .second, .val (.long ((((p1.toUInt64 >>> ((32 : Int32) &&& 0x3f).toInt64.toUInt64).toInt64) * (p2 &&& (4294967295 : Int64))) + ((p1 &&& (4294967295 : Int64)) * ((p2.toUInt64 >>> ((32 : Int32) &&& 0x3f).toInt64.toUInt64).toInt64)))), .second, .val (.long (((((p1.toUInt64 >>> ((32 : Int32) &&& 0x3f).toInt64.toUInt64).toInt64) * (p2 &&& (4294967295 : Int64))) + ((p1 &&& (4294967295 : Int64)) * ((p2.toUInt64 >>> ((32 : Int32) &&& 0x3f).toInt64.toUInt64).toInt64))) <<< ((32 : Int32) &&& 0x3f).toInt64)), .second, .val (.long ((p1 &&& (4294967295 : Int64)) * (p2 &&& (4294967295 : Int64)))), .second, .val (.long ((((((p1.toUInt64 >>> ((32 : Int32) &&& 0x3f).toInt64.toUInt64).toInt64) * (p2 &&& (4294967295 : Int64))) + ((p1 &&& (4294967295 : Int64)) * ((p2.toUInt64 >>> ((32 : Int32) &&& 0x3f).toInt64.toUInt64).toInt64))) <<< ((32 : Int32) &&& 0x3f).toInt64) + ((p1 &&& (4294967295 : Int64)) * (p2 &&& (4294967295 : Int64))))), .second] []))
        refine Goes.on (fun t k => XS.lload XJ.here hx rfl (hb hby d2_103) rfl k) ?_
        show Goes p e below QQ (TJ.setTop (mkF m 105 #[.val (.long p1), .second, .val (.long p2), .second, .val (.long ((p1.toUInt64 >>> ((32 : Int32) &&& 0x3f).toInt64.toUInt64).toInt64)), .second, .val (.long (p1 &&& (4294967295 : Int64))), .second, .val (.long ((p2.toUInt64 >>> ((32 : Int32) &&& 0x3f).toInt64.toUInt64).toInt64)), .second, .val (.long (p2 &&& (4294967295 : Int64))), .second, .val (.long ((((p1.toUInt64 >>> ((32 : Int32) &&& 0x3f).toInt64.toUInt64).toInt64) * (p2 &&& (4294967295 : Int64))) + ((p1 &&& (4294967295 : Int64)) * ((p2.toUInt64 >>> ((32 : Int32) &&& 0x3f).toInt64.toUInt64).toInt64)))), .second, .val (.long (((((p1.toUInt64 >>> ((32 : Int32) &&& 0x3f).toInt64.toUInt64).toInt64) * (p2 &&& (4294967295 : Int64))) + ((p1 &&& (4294967295 : Int64)) * ((p2.toUInt64 >>> ((32 : Int32) &&& 0x3f).toInt64.toUInt64).toInt64))) <<< ((32 : Int32) &&& 0x3f).toInt64)), .second, .val (.long ((p1 &&& (4294967295 : Int64)) * (p2 &&& (4294967295 : Int64)))), .second, .val (.long ((((((p1.toUInt64 >>> ((32 : Int32) &&& 0x3f).toInt64.toUInt64).toInt64) * (p2 &&& (4294967295 : Int64))) + ((p1 &&& (4294967295 : Int64)) * ((p2.toUInt64 >>> ((32 : Int32) &&& 0x3f).toInt64.toUInt64).toInt64))) <<< ((32 : Int32) &&& 0x3f).toInt64) + ((p1 &&& (4294967295 : Int64)) * (p2 &&& (4294967295 : Int64))))), .second] [(.long ((((((p1.toUInt64 >>> ((32 : Int32) &&& 0x3f).toInt64.toUInt64).toInt64) * (p2 &&& (4294967295 : Int64))) + ((p1 &&& (4294967295 : Int64)) * ((p2.toUInt64 >>> ((32 : Int32) &&& 0x3f).toInt64.toUInt64).toInt64))) <<< ((32 : Int32) &&& 0x3f).toInt64) + ((p1 &&& (4294967295 : Int64)) * (p2 &&& (4294967295 : Int64)))))]))
        refine Goes.on (fun t k => XS.lconst XJ.here hx rfl (hb hby d2_105) k) ?_
        show Goes p e below QQ (TJ.setTop (mkF m 106 #[.val (.long p1), .second, .val (.long p2), .second, .val (.long ((p1.toUInt64 >>> ((32 : Int32) &&& 0x3f).toInt64.toUInt64).toInt64)), .second, .val (.long (p1 &&& (4294967295 : Int64))), .second, .val (.long ((p2.toUInt64 >>> ((32 : Int32) &&& 0x3f).toInt64.toUInt64).toInt64)), .second, .val (.long (p2 &&& (4294967295 : Int64))), .second, .val (.long ((((p1.toUInt64 >>> ((32 : Int32) &&& 0x3f).toInt64.toUInt64).toInt64) * (p2 &&& (4294967295 : Int64))) + ((p1 &&& (4294967295 : Int64)) * ((p2.toUInt64 >>> ((32 : Int32) &&& 0x3f).toInt64.toUInt64).toInt64)))), .second, .val (.long (((((p1.toUInt64 >>> ((32 : Int32) &&& 0x3f).toInt64.toUInt64).toInt64) * (p2 &&& (4294967295 : Int64))) + ((p1 &&& (4294967295 : Int64)) * ((p2.toUInt64 >>> ((32 : Int32) &&& 0x3f).toInt64.toUInt64).toInt64))) <<< ((32 : Int32) &&& 0x3f).toInt64)), .second, .val (.long ((p1 &&& (4294967295 : Int64)) * (p2 &&& (4294967295 : Int64)))), .second, .val (.long ((((((p1.toUInt64 >>> ((32 : Int32) &&& 0x3f).toInt64.toUInt64).toInt64) * (p2 &&& (4294967295 : Int64))) + ((p1 &&& (4294967295 : Int64)) * ((p2.toUInt64 >>> ((32 : Int32) &&& 0x3f).toInt64.toUInt64).toInt64))) <<< ((32 : Int32) &&& 0x3f).toInt64) + ((p1 &&& (4294967295 : Int64)) * (p2 &&& (4294967295 : Int64))))), .second] [(.long (0 : Int64)), (.long ((((((p1.toUInt64 >>> ((32 : Int32) &&& 0x3f).toInt64.toUInt64).toInt64) * (p2 &&& (4294967295 : Int64))) + ((p1 &&& (4294967295 : Int64)) * ((p2.toUInt64 >>> ((32 : Int32) &&& 0x3f).toInt64.toUInt64).toInt64))) <<< ((32 : Int32) &&& 0x3f).toInt64) + ((p1 &&& (4294967295 : Int64)) * (p2 &&& (4294967295 : Int64)))))]))
        refine Goes.on (fun t k => XS.lcmp XJ.here hx rfl (hb hby d2_106) rfl k) ?_
        show Goes p e below QQ (TJ.setTop (mkF m 107 #[.val (.long p1), .second, .val (.long p2), .second, .val (.long ((p1.toUInt64 >>> ((32 : Int32) &&& 0x3f).toInt64.toUInt64).toInt64)), .second, .val (.long (p1 &&& (4294967295 : Int64))), .second, .val (.long ((p2.toUInt64 >>> ((32 : Int32) &&& 0x3f).toInt64.toUInt64).toInt64)), .second, .val (.long (p2 &&& (4294967295 : Int64))), .second, .val (.long ((((p1.toUInt64 >>> ((32 : Int32) &&& 0x3f).toInt64.toUInt64).toInt64) * (p2 &&& (4294967295 : Int64))) + ((p1 &&& (4294967295 : Int64)) * ((p2.toUInt64 >>> ((32 : Int32) &&& 0x3f).toInt64.toUInt64).toInt64)))), .second, .val (.long (((((p1.toUInt64 >>> ((32 : Int32) &&& 0x3f).toInt64.toUInt64).toInt64) * (p2 &&& (4294967295 : Int64))) + ((p1 &&& (4294967295 : Int64)) * ((p2.toUInt64 >>> ((32 : Int32) &&& 0x3f).toInt64.toUInt64).toInt64))) <<< ((32 : Int32) &&& 0x3f).toInt64)), .second, .val (.long ((p1 &&& (4294967295 : Int64)) * (p2 &&& (4294967295 : Int64)))), .second, .val (.long ((((((p1.toUInt64 >>> ((32 : Int32) &&& 0x3f).toInt64.toUInt64).toInt64) * (p2 &&& (4294967295 : Int64))) + ((p1 &&& (4294967295 : Int64)) * ((p2.toUInt64 >>> ((32 : Int32) &&& 0x3f).toInt64.toUInt64).toInt64))) <<< ((32 : Int32) &&& 0x3f).toInt64) + ((p1 &&& (4294967295 : Int64)) * (p2 &&& (4294967295 : Int64))))), .second] [(.int (lcmpW ((((((p1.toUInt64 >>> ((32 : Int32) &&& 0x3f).toInt64.toUInt64).toInt64) * (p2 &&& (4294967295 : Int64))) + ((p1 &&& (4294967295 : Int64)) * ((p2.toUInt64 >>> ((32 : Int32) &&& 0x3f).toInt64.toUInt64).toInt64))) <<< ((32 : Int32) &&& 0x3f).toInt64) + ((p1 &&& (4294967295 : Int64)) * (p2 &&& (4294967295 : Int64)))) (0 : Int64)))]))
        by_cases hb3 : ((((((p1.toUInt64 >>> ((32 : Int32) &&& 0x3f).toInt64.toUInt64).toInt64) * (p2 &&& (4294967295 : Int64))) + ((p1 &&& (4294967295 : Int64)) * ((p2.toUInt64 >>> ((32 : Int32) &&& 0x3f).toInt64.toUInt64).toInt64))) <<< ((32 : Int32) &&& 0x3f).toInt64) + ((p1 &&& (4294967295 : Int64)) * (p2 &&& (4294967295 : Int64)))) < (0 : Int64)
        · refine Goes.on (fun t k => XS.ifNo XJ.here hx rfl (hb hby d2_107) rfl ((if0 _ _).trans (tlt ((lw_lt ((((((p1.toUInt64 >>> ((32 : Int32) &&& 0x3f).toInt64.toUInt64).toInt64) * (p2 &&& (4294967295 : Int64))) + ((p1 &&& (4294967295 : Int64)) * ((p2.toUInt64 >>> ((32 : Int32) &&& 0x3f).toInt64.toUInt64).toInt64))) <<< ((32 : Int32) &&& 0x3f).toInt64) + ((p1 &&& (4294967295 : Int64)) * (p2 &&& (4294967295 : Int64)))) (0 : Int64)).mpr hb3)).2.1) k) ?_
          show Goes p e below QQ (TJ.setTop (mkF m 110 #[.val (.long p1), .second, .val (.long p2), .second, .val (.long ((p1.toUInt64 >>> ((32 : Int32) &&& 0x3f).toInt64.toUInt64).toInt64)), .second, .val (.long (p1 &&& (4294967295 : Int64))), .second, .val (.long ((p2.toUInt64 >>> ((32 : Int32) &&& 0x3f).toInt64.toUInt64).toInt64)), .second, .val (.long (p2 &&& (4294967295 : Int64))), .second, .val (.long ((((p1.toUInt64 >>> ((32 : Int32) &&& 0x3f).toInt64.toUInt64).toInt64) * (p2 &&& (4294967295 : Int64))) + ((p1 &&& (4294967295 : Int64)) * ((p2.toUInt64 >>> ((32 : Int32) &&& 0x3f).toInt64.toUInt64).toInt64)))), .second, .val (.long (((((p1.toUInt64 >>> ((32 : Int32) &&& 0x3f).toInt64.toUInt64).toInt64) * (p2 &&& (4294967295 : Int64))) + ((p1 &&& (4294967295 : Int64)) * ((p2.toUInt64 >>> ((32 : Int32) &&& 0x3f).toInt64.toUInt64).toInt64))) <<< ((32 : Int32) &&& 0x3f).toInt64)), .second, .val (.long ((p1 &&& (4294967295 : Int64)) * (p2 &&& (4294967295 : Int64)))), .second, .val (.long ((((((p1.toUInt64 >>> ((32 : Int32) &&& 0x3f).toInt64.toUInt64).toInt64) * (p2 &&& (4294967295 : Int64))) + ((p1 &&& (4294967295 : Int64)) * ((p2.toUInt64 >>> ((32 : Int32) &&& 0x3f).toInt64.toUInt64).toInt64))) <<< ((32 : Int32) &&& 0x3f).toInt64) + ((p1 &&& (4294967295 : Int64)) * (p2 &&& (4294967295 : Int64))))), .second] []))
          refine Goes.on (fun t k => XJ.ldc2Long hx hown (mvT hZ (hw _ (List.mem_of_getElem? (i := 0) rfl))) (g := (mkF m 110 #[.val (.long p1), .second, .val (.long p2), .second, .val (.long ((p1.toUInt64 >>> ((32 : Int32) &&& 0x3f).toInt64.toUInt64).toInt64)), .second, .val (.long (p1 &&& (4294967295 : Int64))), .second, .val (.long ((p2.toUInt64 >>> ((32 : Int32) &&& 0x3f).toInt64.toUInt64).toInt64)), .second, .val (.long (p2 &&& (4294967295 : Int64))), .second, .val (.long ((((p1.toUInt64 >>> ((32 : Int32) &&& 0x3f).toInt64.toUInt64).toInt64) * (p2 &&& (4294967295 : Int64))) + ((p1 &&& (4294967295 : Int64)) * ((p2.toUInt64 >>> ((32 : Int32) &&& 0x3f).toInt64.toUInt64).toInt64)))), .second, .val (.long (((((p1.toUInt64 >>> ((32 : Int32) &&& 0x3f).toInt64.toUInt64).toInt64) * (p2 &&& (4294967295 : Int64))) + ((p1 &&& (4294967295 : Int64)) * ((p2.toUInt64 >>> ((32 : Int32) &&& 0x3f).toInt64.toUInt64).toInt64))) <<< ((32 : Int32) &&& 0x3f).toInt64)), .second, .val (.long ((p1 &&& (4294967295 : Int64)) * (p2 &&& (4294967295 : Int64)))), .second, .val (.long ((((((p1.toUInt64 >>> ((32 : Int32) &&& 0x3f).toInt64.toUInt64).toInt64) * (p2 &&& (4294967295 : Int64))) + ((p1 &&& (4294967295 : Int64)) * ((p2.toUInt64 >>> ((32 : Int32) &&& 0x3f).toInt64.toUInt64).toInt64))) <<< ((32 : Int32) &&& 0x3f).toInt64) + ((p1 &&& (4294967295 : Int64)) * (p2 &&& (4294967295 : Int64))))), .second] [])) rfl (hb hby d2_110) t k) ?_
          show Goes p e below QQ (TJ.setTop (mkF m 113 #[.val (.long p1), .second, .val (.long p2), .second, .val (.long ((p1.toUInt64 >>> ((32 : Int32) &&& 0x3f).toInt64.toUInt64).toInt64)), .second, .val (.long (p1 &&& (4294967295 : Int64))), .second, .val (.long ((p2.toUInt64 >>> ((32 : Int32) &&& 0x3f).toInt64.toUInt64).toInt64)), .second, .val (.long (p2 &&& (4294967295 : Int64))), .second, .val (.long ((((p1.toUInt64 >>> ((32 : Int32) &&& 0x3f).toInt64.toUInt64).toInt64) * (p2 &&& (4294967295 : Int64))) + ((p1 &&& (4294967295 : Int64)) * ((p2.toUInt64 >>> ((32 : Int32) &&& 0x3f).toInt64.toUInt64).toInt64)))), .second, .val (.long (((((p1.toUInt64 >>> ((32 : Int32) &&& 0x3f).toInt64.toUInt64).toInt64) * (p2 &&& (4294967295 : Int64))) + ((p1 &&& (4294967295 : Int64)) * ((p2.toUInt64 >>> ((32 : Int32) &&& 0x3f).toInt64.toUInt64).toInt64))) <<< ((32 : Int32) &&& 0x3f).toInt64)), .second, .val (.long ((p1 &&& (4294967295 : Int64)) * (p2 &&& (4294967295 : Int64)))), .second, .val (.long ((((((p1.toUInt64 >>> ((32 : Int32) &&& 0x3f).toInt64.toUInt64).toInt64) * (p2 &&& (4294967295 : Int64))) + ((p1 &&& (4294967295 : Int64)) * ((p2.toUInt64 >>> ((32 : Int32) &&& 0x3f).toInt64.toUInt64).toInt64))) <<< ((32 : Int32) &&& 0x3f).toInt64) + ((p1 &&& (4294967295 : Int64)) * (p2 &&& (4294967295 : Int64))))), .second] [(.long (9223372036854775807 : Int64))]))
          exact Goes.rJ XJ hx hret hlk (hb hby d2_113) hQQ ⟨congrArg (fun z => some (Value.long z)) ((hj.trans ((if_pos hb1).trans ((if_neg hb2).trans ((if_pos hb3).trans rfl)))) : (refMul p1 p2) = (9223372036854775807 : Int64)).symm, NJ, eJ⟩ (by decide) (by decide)
        · refine Goes.on (fun t k => XS.ifYes XJ.here hx rfl (pc0 := 107) (pc' := 114) rfl (hb hby d2_107) rfl ((if0 _ _).trans (flt (mt (lw_lt ((((((p1.toUInt64 >>> ((32 : Int32) &&& 0x3f).toInt64.toUInt64).toInt64) * (p2 &&& (4294967295 : Int64))) + ((p1 &&& (4294967295 : Int64)) * ((p2.toUInt64 >>> ((32 : Int32) &&& 0x3f).toInt64.toUInt64).toInt64))) <<< ((32 : Int32) &&& 0x3f).toInt64) + ((p1 &&& (4294967295 : Int64)) * (p2 &&& (4294967295 : Int64)))) (0 : Int64)).mp hb3)).2.1) (by decide) (by decide) k) ?_
          show Goes p e below QQ (TJ.setTop (mkF m 114 #[.val (.long p1), .second, .val (.long p2), .second, .val (.long ((p1.toUInt64 >>> ((32 : Int32) &&& 0x3f).toInt64.toUInt64).toInt64)), .second, .val (.long (p1 &&& (4294967295 : Int64))), .second, .val (.long ((p2.toUInt64 >>> ((32 : Int32) &&& 0x3f).toInt64.toUInt64).toInt64)), .second, .val (.long (p2 &&& (4294967295 : Int64))), .second, .val (.long ((((p1.toUInt64 >>> ((32 : Int32) &&& 0x3f).toInt64.toUInt64).toInt64) * (p2 &&& (4294967295 : Int64))) + ((p1 &&& (4294967295 : Int64)) * ((p2.toUInt64 >>> ((32 : Int32) &&& 0x3f).toInt64.toUInt64).toInt64)))), .second, .val (.long (((((p1.toUInt64 >>> ((32 : Int32) &&& 0x3f).toInt64.toUInt64).toInt64) * (p2 &&& (4294967295 : Int64))) + ((p1 &&& (4294967295 : Int64)) * ((p2.toUInt64 >>> ((32 : Int32) &&& 0x3f).toInt64.toUInt64).toInt64))) <<< ((32 : Int32) &&& 0x3f).toInt64)), .second, .val (.long ((p1 &&& (4294967295 : Int64)) * (p2 &&& (4294967295 : Int64)))), .second, .val (.long ((((((p1.toUInt64 >>> ((32 : Int32) &&& 0x3f).toInt64.toUInt64).toInt64) * (p2 &&& (4294967295 : Int64))) + ((p1 &&& (4294967295 : Int64)) * ((p2.toUInt64 >>> ((32 : Int32) &&& 0x3f).toInt64.toUInt64).toInt64))) <<< ((32 : Int32) &&& 0x3f).toInt64) + ((p1 &&& (4294967295 : Int64)) * (p2 &&& (4294967295 : Int64))))), .second] []))
          refine Goes.on (fun t k => XS.lload XJ.here hx rfl (hb hby d2_114) rfl k) ?_
          show Goes p e below QQ (TJ.setTop (mkF m 116 #[.val (.long p1), .second, .val (.long p2), .second, .val (.long ((p1.toUInt64 >>> ((32 : Int32) &&& 0x3f).toInt64.toUInt64).toInt64)), .second, .val (.long (p1 &&& (4294967295 : Int64))), .second, .val (.long ((p2.toUInt64 >>> ((32 : Int32) &&& 0x3f).toInt64.toUInt64).toInt64)), .second, .val (.long (p2 &&& (4294967295 : Int64))), .second, .val (.long ((((p1.toUInt64 >>> ((32 : Int32) &&& 0x3f).toInt64.toUInt64).toInt64) * (p2 &&& (4294967295 : Int64))) + ((p1 &&& (4294967295 : Int64)) * ((p2.toUInt64 >>> ((32 : Int32) &&& 0x3f).toInt64.toUInt64).toInt64)))), .second, .val (.long (((((p1.toUInt64 >>> ((32 : Int32) &&& 0x3f).toInt64.toUInt64).toInt64) * (p2 &&& (4294967295 : Int64))) + ((p1 &&& (4294967295 : Int64)) * ((p2.toUInt64 >>> ((32 : Int32) &&& 0x3f).toInt64.toUInt64).toInt64))) <<< ((32 : Int32) &&& 0x3f).toInt64)), .second, .val (.long ((p1 &&& (4294967295 : Int64)) * (p2 &&& (4294967295 : Int64)))), .second, .val (.long ((((((p1.toUInt64 >>> ((32 : Int32) &&& 0x3f).toInt64.toUInt64).toInt64) * (p2 &&& (4294967295 : Int64))) + ((p1 &&& (4294967295 : Int64)) * ((p2.toUInt64 >>> ((32 : Int32) &&& 0x3f).toInt64.toUInt64).toInt64))) <<< ((32 : Int32) &&& 0x3f).toInt64) + ((p1 &&& (4294967295 : Int64)) * (p2 &&& (4294967295 : Int64))))), .second] [(.long ((((((p1.toUInt64 >>> ((32 : Int32) &&& 0x3f).toInt64.toUInt64).toInt64) * (p2 &&& (4294967295 : Int64))) + ((p1 &&& (4294967295 : Int64)) * ((p2.toUInt64 >>> ((32 : Int32) &&& 0x3f).toInt64.toUInt64).toInt64))) <<< ((32 : Int32) &&& 0x3f).toInt64) + ((p1 &&& (4294967295 : Int64)) * (p2 &&& (4294967295 : Int64)))))]))
          exact Goes.rJ XJ hx hret hlk (hb hby d2_116) hQQ ⟨congrArg (fun z => some (Value.long z)) ((hj.trans ((if_pos hb1).trans ((if_neg hb2).trans ((if_neg hb3).trans rfl)))) : (refMul p1 p2) = ((((((p1.toUInt64 >>> ((32 : Int32) &&& 0x3f).toInt64.toUInt64).toInt64) * (p2 &&& (4294967295 : Int64))) + ((p1 &&& (4294967295 : Int64)) * ((p2.toUInt64 >>> ((32 : Int32) &&& 0x3f).toInt64.toUInt64).toInt64))) <<< ((32 : Int32) &&& 0x3f).toInt64) + ((p1 &&& (4294967295 : Int64)) * (p2 &&& (4294967295 : Int64))))).symm, NJ, eJ⟩ (by decide) (by decide)
    · refine Goes.on (fun t k => XS.ifNo XJ.here hx rfl (hb hby d2_64) rfl ((if0 _ _).trans (feq (mt (lw_eq ((((((p1.toUInt64 >>> ((32 : Int32) &&& 0x3f).toInt64.toUInt64).toInt64) * (p2 &&& (4294967295 : Int64))) + ((p1 &&& (4294967295 : Int64)) * ((p2.toUInt64 >>> ((32 : Int32) &&& 0x3f).toInt64.toUInt64).toInt64))).toUInt64 >>> ((31 : Int32) &&& 0x3f).toInt64.toUInt64).toInt64) (0 : Int64)).mp hb1)).1) k) ?_
      show Goes p e below QQ (TJ.setTop (mkF m 67 #[.val (.long p1), .second, .val (.long p2), .second, .val (.long ((p1.toUInt64 >>> ((32 : Int32) &&& 0x3f).toInt64.toUInt64).toInt64)), .second, .val (.long (p1 &&& (4294967295 : Int64))), .second, .val (.long ((p2.toUInt64 >>> ((32 : Int32) &&& 0x3f).toInt64.toUInt64).toInt64)), .second, .val (.long (p2 &&& (4294967295 : Int64))), .second, .val (.long ((((p1.toUInt64 >>> ((32 : Int32) &&& 0x3f).toInt64.toUInt64).toInt64) * (p2 &&& (4294967295 : Int64))) + ((p1 &&& (4294967295 : Int64)) * ((p2.toUInt64 >>> ((32 : Int32) &&& 0x3f).toInt64.toUInt64).toInt64)))), .second, .unset, .unset, .unset, .unset, .unset, .unset] []))
      refine Goes.on (fun t k => XJ.ldc2Long hx hown (mvT hZ (hw _ (List.mem_of_getElem? (i := 0) rfl))) (g := (mkF m 67 #[.val (.long p1), .second, .val (.long p2), .second, .val (.long ((p1.toUInt64 >>> ((32 : Int32) &&& 0x3f).toInt64.toUInt64).toInt64)), .second, .val (.long (p1 &&& (4294967295 : Int64))), .second, .val (.long ((p2.toUInt64 >>> ((32 : Int32) &&& 0x3f).toInt64.toUInt64).toInt64)), .second, .val (.long (p2 &&& (4294967295 : Int64))), .second, .val (.long ((((p1.toUInt64 >>> ((32 : Int32) &&& 0x3f).toInt64.toUInt64).toInt64) * (p2 &&& (4294967295 : Int64))) + ((p1 &&& (4294967295 : Int64)) * ((p2.toUInt64 >>> ((32 : Int32) &&& 0x3f).toInt64.toUInt64).toInt64)))), .second, .unset, .unset, .unset, .unset, .unset, .unset] [])) rfl (hb hby d2_67) t k) ?_
      show Goes p e below QQ (TJ.setTop (mkF m 70 #[.val (.long p1), .second, .val (.long p2), .second, .val (.long ((p1.toUInt64 >>> ((32 : Int32) &&& 0x3f).toInt64.toUInt64).toInt64)), .second, .val (.long (p1 &&& (4294967295 : Int64))), .second, .val (.long ((p2.toUInt64 >>> ((32 : Int32) &&& 0x3f).toInt64.toUInt64).toInt64)), .second, .val (.long (p2 &&& (4294967295 : Int64))), .second, .val (.long ((((p1.toUInt64 >>> ((32 : Int32) &&& 0x3f).toInt64.toUInt64).toInt64) * (p2 &&& (4294967295 : Int64))) + ((p1 &&& (4294967295 : Int64)) * ((p2.toUInt64 >>> ((32 : Int32) &&& 0x3f).toInt64.toUInt64).toInt64)))), .second, .unset, .unset, .unset, .unset, .unset, .unset] [(.long (9223372036854775807 : Int64))]))
      exact Goes.rJ XJ hx hret hlk (hb hby d2_70) hQQ ⟨congrArg (fun z => some (Value.long z)) ((hj.trans ((if_neg hb1).trans rfl)) : (refMul p1 p2) = (9223372036854775807 : Int64)).symm, NJ, eJ⟩ (by decide) (by decide)
  show Goes p e below QQ (s₁.setTop (mkF m 0 #[.val (.long p1), .second, .val (.long p2), .second, .unset, .unset, .unset, .unset, .unset, .unset, .unset, .unset, .unset, .unset, .unset, .unset, .unset, .unset, .unset, .unset] []))
  refine Goes.on (fun t k => XS.lloadN X0.here hx rfl (hb hby d2_0) rfl k) ?_
  show Goes p e below QQ (s₁.setTop (mkF m 1 #[.val (.long p1), .second, .val (.long p2), .second, .unset, .unset, .unset, .unset, .unset, .unset, .unset, .unset, .unset, .unset, .unset, .unset, .unset, .unset, .unset, .unset] [(.long p1)]))
  refine Goes.on (fun t k => XS.bipush X0.here hx rfl (hb hby d2_1) k) ?_
  show Goes p e below QQ (s₁.setTop (mkF m 3 #[.val (.long p1), .second, .val (.long p2), .second, .unset, .unset, .unset, .unset, .unset, .unset, .unset, .unset, .unset, .unset, .unset, .unset, .unset, .unset, .unset, .unset] [(.int 32), (.long p1)]))
  refine Goes.on (fun t k => XS.lushr X0.here hx rfl (hb hby d2_3) rfl k) ?_
  show Goes p e below QQ (s₁.setTop (mkF m 4 #[.val (.long p1), .second, .val (.long p2), .second, .unset, .unset, .unset, .unset, .unset, .unset, .unset, .unset, .unset, .unset, .unset, .unset, .unset, .unset, .unset, .unset] [(.long ((p1.toUInt64 >>> ((32 : Int32) &&& 0x3f).toInt64.toUInt64).toInt64))]))
  refine Goes.on (fun t k => XS.lstore X0.here hx rfl (hb hby d2_4) rfl (l' := #[.val (.long p1), .second, .val (.long p2), .second, .val (.long ((p1.toUInt64 >>> ((32 : Int32) &&& 0x3f).toInt64.toUInt64).toInt64)), .second, .unset, .unset, .unset, .unset, .unset, .unset, .unset, .unset, .unset, .unset, .unset, .unset, .unset, .unset]) rfl k) ?_
  show Goes p e below QQ (s₁.setTop (mkF m 6 #[.val (.long p1), .second, .val (.long p2), .second, .val (.long ((p1.toUInt64 >>> ((32 : Int32) &&& 0x3f).toInt64.toUInt64).toInt64)), .second, .unset, .unset, .unset, .unset, .unset, .unset, .unset, .unset, .unset, .unset, .unset, .unset, .unset, .unset] []))
  refine Goes.on (fun t k => XS.lloadN X0.here hx rfl (hb hby d2_6) rfl k) ?_
  show Goes p e below QQ (s₁.setTop (mkF m 7 #[.val (.long p1), .second, .val (.long p2), .second, .val (.long ((p1.toUInt64 >>> ((32 : Int32) &&& 0x3f).toInt64.toUInt64).toInt64)), .second, .unset, .unset, .unset, .unset, .unset, .unset, .unset, .unset, .unset, .unset, .unset, .unset, .unset, .unset] [(.long p1)]))
  refine Goes.on (fun t k => X0.ldc2Long hx hown (mvT hZ (hw _ (List.mem_of_getElem? (i := 10) rfl))) (g := (mkF m 7 #[.val (.long p1), .second, .val (.long p2), .second, .val (.long ((p1.toUInt64 >>> ((32 : Int32) &&& 0x3f).toInt64.toUInt64).toInt64)), .second, .unset, .unset, .unset, .unset, .unset, .unset, .unset, .unset, .unset, .unset, .unset, .unset, .unset, .unset] [(.long p1)])) rfl (hb hby d2_7) t k) ?_
  show Goes p e below QQ (s₁.setTop (mkF m 10 #[.val (.long p1), .second, .val (.long p2), .second, .val (.long ((p1.toUInt64 >>> ((32 : Int32) &&& 0x3f).toInt64.toUInt64).toInt64)), .second, .unset, .unset, .unset, .unset, .unset, .unset, .unset, .unset, .unset, .unset, .unset, .unset, .unset, .unset] [(.long (4294967295 : Int64)), (.long p1)]))
  refine Goes.on (fun t k => XS.land X0.here hx rfl (hb hby d2_10) rfl k) ?_
  show Goes p e below QQ (s₁.setTop (mkF m 11 #[.val (.long p1), .second, .val (.long p2), .second, .val (.long ((p1.toUInt64 >>> ((32 : Int32) &&& 0x3f).toInt64.toUInt64).toInt64)), .second, .unset, .unset, .unset, .unset, .unset, .unset, .unset, .unset, .unset, .unset, .unset, .unset, .unset, .unset] [(.long (p1 &&& (4294967295 : Int64)))]))
  refine Goes.on (fun t k => XS.lstore X0.here hx rfl (hb hby d2_11) rfl (l' := #[.val (.long p1), .second, .val (.long p2), .second, .val (.long ((p1.toUInt64 >>> ((32 : Int32) &&& 0x3f).toInt64.toUInt64).toInt64)), .second, .val (.long (p1 &&& (4294967295 : Int64))), .second, .unset, .unset, .unset, .unset, .unset, .unset, .unset, .unset, .unset, .unset, .unset, .unset]) rfl k) ?_
  show Goes p e below QQ (s₁.setTop (mkF m 13 #[.val (.long p1), .second, .val (.long p2), .second, .val (.long ((p1.toUInt64 >>> ((32 : Int32) &&& 0x3f).toInt64.toUInt64).toInt64)), .second, .val (.long (p1 &&& (4294967295 : Int64))), .second, .unset, .unset, .unset, .unset, .unset, .unset, .unset, .unset, .unset, .unset, .unset, .unset] []))
  refine Goes.on (fun t k => XS.lloadN X0.here hx rfl (hb hby d2_13) rfl k) ?_
  show Goes p e below QQ (s₁.setTop (mkF m 14 #[.val (.long p1), .second, .val (.long p2), .second, .val (.long ((p1.toUInt64 >>> ((32 : Int32) &&& 0x3f).toInt64.toUInt64).toInt64)), .second, .val (.long (p1 &&& (4294967295 : Int64))), .second, .unset, .unset, .unset, .unset, .unset, .unset, .unset, .unset, .unset, .unset, .unset, .unset] [(.long p2)]))
  refine Goes.on (fun t k => XS.bipush X0.here hx rfl (hb hby d2_14) k) ?_
  show Goes p e below QQ (s₁.setTop (mkF m 16 #[.val (.long p1), .second, .val (.long p2), .second, .val (.long ((p1.toUInt64 >>> ((32 : Int32) &&& 0x3f).toInt64.toUInt64).toInt64)), .second, .val (.long (p1 &&& (4294967295 : Int64))), .second, .unset, .unset, .unset, .unset, .unset, .unset, .unset, .unset, .unset, .unset, .unset, .unset] [(.int 32), (.long p2)]))
  refine Goes.on (fun t k => XS.lushr X0.here hx rfl (hb hby d2_16) rfl k) ?_
  show Goes p e below QQ (s₁.setTop (mkF m 17 #[.val (.long p1), .second, .val (.long p2), .second, .val (.long ((p1.toUInt64 >>> ((32 : Int32) &&& 0x3f).toInt64.toUInt64).toInt64)), .second, .val (.long (p1 &&& (4294967295 : Int64))), .second, .unset, .unset, .unset, .unset, .unset, .unset, .unset, .unset, .unset, .unset, .unset, .unset] [(.long ((p2.toUInt64 >>> ((32 : Int32) &&& 0x3f).toInt64.toUInt64).toInt64))]))
  refine Goes.on (fun t k => XS.lstore X0.here hx rfl (hb hby d2_17) rfl (l' := #[.val (.long p1), .second, .val (.long p2), .second, .val (.long ((p1.toUInt64 >>> ((32 : Int32) &&& 0x3f).toInt64.toUInt64).toInt64)), .second, .val (.long (p1 &&& (4294967295 : Int64))), .second, .val (.long ((p2.toUInt64 >>> ((32 : Int32) &&& 0x3f).toInt64.toUInt64).toInt64)), .second, .unset, .unset, .unset, .unset, .unset, .unset, .unset, .unset, .unset, .unset]) rfl k) ?_
  show Goes p e below QQ (s₁.setTop (mkF m 19 #[.val (.long p1), .second, .val (.long p2), .second, .val (.long ((p1.toUInt64 >>> ((32 : Int32) &&& 0x3f).toInt64.toUInt64).toInt64)), .second, .val (.long (p1 &&& (4294967295 : Int64))), .second, .val (.long ((p2.toUInt64 >>> ((32 : Int32) &&& 0x3f).toInt64.toUInt64).toInt64)), .second, .unset, .unset, .unset, .unset, .unset, .unset, .unset, .unset, .unset, .unset] []))
  refine Goes.on (fun t k => XS.lloadN X0.here hx rfl (hb hby d2_19) rfl k) ?_
  show Goes p e below QQ (s₁.setTop (mkF m 20 #[.val (.long p1), .second, .val (.long p2), .second, .val (.long ((p1.toUInt64 >>> ((32 : Int32) &&& 0x3f).toInt64.toUInt64).toInt64)), .second, .val (.long (p1 &&& (4294967295 : Int64))), .second, .val (.long ((p2.toUInt64 >>> ((32 : Int32) &&& 0x3f).toInt64.toUInt64).toInt64)), .second, .unset, .unset, .unset, .unset, .unset, .unset, .unset, .unset, .unset, .unset] [(.long p2)]))
  refine Goes.on (fun t k => X0.ldc2Long hx hown (mvT hZ (hw _ (List.mem_of_getElem? (i := 10) rfl))) (g := (mkF m 20 #[.val (.long p1), .second, .val (.long p2), .second, .val (.long ((p1.toUInt64 >>> ((32 : Int32) &&& 0x3f).toInt64.toUInt64).toInt64)), .second, .val (.long (p1 &&& (4294967295 : Int64))), .second, .val (.long ((p2.toUInt64 >>> ((32 : Int32) &&& 0x3f).toInt64.toUInt64).toInt64)), .second, .unset, .unset, .unset, .unset, .unset, .unset, .unset, .unset, .unset, .unset] [(.long p2)])) rfl (hb hby d2_20) t k) ?_
  show Goes p e below QQ (s₁.setTop (mkF m 23 #[.val (.long p1), .second, .val (.long p2), .second, .val (.long ((p1.toUInt64 >>> ((32 : Int32) &&& 0x3f).toInt64.toUInt64).toInt64)), .second, .val (.long (p1 &&& (4294967295 : Int64))), .second, .val (.long ((p2.toUInt64 >>> ((32 : Int32) &&& 0x3f).toInt64.toUInt64).toInt64)), .second, .unset, .unset, .unset, .unset, .unset, .unset, .unset, .unset, .unset, .unset] [(.long (4294967295 : Int64)), (.long p2)]))
  refine Goes.on (fun t k => XS.land X0.here hx rfl (hb hby d2_23) rfl k) ?_
  show Goes p e below QQ (s₁.setTop (mkF m 24 #[.val (.long p1), .second, .val (.long p2), .second, .val (.long ((p1.toUInt64 >>> ((32 : Int32) &&& 0x3f).toInt64.toUInt64).toInt64)), .second, .val (.long (p1 &&& (4294967295 : Int64))), .second, .val (.long ((p2.toUInt64 >>> ((32 : Int32) &&& 0x3f).toInt64.toUInt64).toInt64)), .second, .unset, .unset, .unset, .unset, .unset, .unset, .unset, .unset, .unset, .unset] [(.long (p2 &&& (4294967295 : Int64)))]))
  refine Goes.on (fun t k => XS.lstore X0.here hx rfl (hb hby d2_24) rfl (l' := #[.val (.long p1), .second, .val (.long p2), .second, .val (.long ((p1.toUInt64 >>> ((32 : Int32) &&& 0x3f).toInt64.toUInt64).toInt64)), .second, .val (.long (p1 &&& (4294967295 : Int64))), .second, .val (.long ((p2.toUInt64 >>> ((32 : Int32) &&& 0x3f).toInt64.toUInt64).toInt64)), .second, .val (.long (p2 &&& (4294967295 : Int64))), .second, .unset, .unset, .unset, .unset, .unset, .unset, .unset, .unset]) rfl k) ?_
  show Goes p e below QQ (s₁.setTop (mkF m 26 #[.val (.long p1), .second, .val (.long p2), .second, .val (.long ((p1.toUInt64 >>> ((32 : Int32) &&& 0x3f).toInt64.toUInt64).toInt64)), .second, .val (.long (p1 &&& (4294967295 : Int64))), .second, .val (.long ((p2.toUInt64 >>> ((32 : Int32) &&& 0x3f).toInt64.toUInt64).toInt64)), .second, .val (.long (p2 &&& (4294967295 : Int64))), .second, .unset, .unset, .unset, .unset, .unset, .unset, .unset, .unset] []))
  refine Goes.on (fun t k => XS.lload X0.here hx rfl (hb hby d2_26) rfl k) ?_
  show Goes p e below QQ (s₁.setTop (mkF m 28 #[.val (.long p1), .second, .val (.long p2), .second, .val (.long ((p1.toUInt64 >>> ((32 : Int32) &&& 0x3f).toInt64.toUInt64).toInt64)), .second, .val (.long (p1 &&& (4294967295 : Int64))), .second, .val (.long ((p2.toUInt64 >>> ((32 : Int32) &&& 0x3f).toInt64.toUInt64).toInt64)), .second, .val (.long (p2 &&& (4294967295 : Int64))), .second, .unset, .unset, .unset, .unset, .unset, .unset, .unset, .unset] [(.long ((p1.toUInt64 >>> ((32 : Int32) &&& 0x3f).toInt64.toUInt64).toInt64))]))
  refine Goes.on (fun t k => XS.lconst X0.here hx rfl (hb hby d2_28) k) ?_
  show Goes p e below QQ (s₁.setTop (mkF m 29 #[.val (.long p1), .second, .val (.long p2), .second, .val (.long ((p1.toUInt64 >>> ((32 : Int32) &&& 0x3f).toInt64.toUInt64).toInt64)), .second, .val (.long (p1 &&& (4294967295 : Int64))), .second, .val (.long ((p2.toUInt64 >>> ((32 : Int32) &&& 0x3f).toInt64.toUInt64).toInt64)), .second, .val (.long (p2 &&& (4294967295 : Int64))), .second, .unset, .unset, .unset, .unset, .unset, .unset, .unset, .unset] [(.long (0 : Int64)), (.long ((p1.toUInt64 >>> ((32 : Int32) &&& 0x3f).toInt64.toUInt64).toInt64))]))
  refine Goes.on (fun t k => XS.lcmp X0.here hx rfl (hb hby d2_29) rfl k) ?_
  show Goes p e below QQ (s₁.setTop (mkF m 30 #[.val (.long p1), .second, .val (.long p2), .second, .val (.long ((p1.toUInt64 >>> ((32 : Int32) &&& 0x3f).toInt64.toUInt64).toInt64)), .second, .val (.long (p1 &&& (4294967295 : Int64))), .second, .val (.long ((p2.toUInt64 >>> ((32 : Int32) &&& 0x3f).toInt64.toUInt64).toInt64)), .second, .val (.long (p2 &&& (4294967295 : Int64))), .second, .unset, .unset, .unset, .unset, .unset, .unset, .unset, .unset] [(.int (lcmpW ((p1.toUInt64 >>> ((32 : Int32) &&& 0x3f).toInt64.toUInt64).toInt64) (0 : Int64)))]))
  by_cases hb4 : ((p1.toUInt64 >>> ((32 : Int32) &&& 0x3f).toInt64.toUInt64).toInt64) = (0 : Int64)
  · refine Goes.on (fun t k => XS.ifYes X0.here hx rfl (pc0 := 30) (pc' := 44) rfl (hb hby d2_30) rfl ((if0 _ _).trans (teq ((lw_eq ((p1.toUInt64 >>> ((32 : Int32) &&& 0x3f).toInt64.toUInt64).toInt64) (0 : Int64)).mpr hb4)).1) (by decide) (by decide) k) ?_
    show Goes p e below QQ (s₁.setTop (mkF m 44 #[.val (.long p1), .second, .val (.long p2), .second, .val (.long ((p1.toUInt64 >>> ((32 : Int32) &&& 0x3f).toInt64.toUInt64).toInt64)), .second, .val (.long (p1 &&& (4294967295 : Int64))), .second, .val (.long ((p2.toUInt64 >>> ((32 : Int32) &&& 0x3f).toInt64.toUInt64).toInt64)), .second, .val (.long (p2 &&& (4294967295 : Int64))), .second, .unset, .unset, .unset, .unset, .unset, .unset, .unset, .unset] []))
    exact J44  s₁ _ X0 e0 N0 (((if_pos hb4).trans rfl) : (refMul p1 p2) = (refMul_44 p1 p2 ))
  · refine Goes.on (fun t k => XS.ifNo X0.here hx rfl (hb hby d2_30) rfl ((if0 _ _).trans (feq (mt (lw_eq ((p1.toUInt64 >>> ((32 : Int32) &&& 0x3f).toInt64.toUInt64).toInt64) (0 : Int64)).mp hb4)).1) k) ?_
    show Goes p e below QQ (s₁.setTop (mkF m 33 #[.val (.long p1), .second, .val (.long p2), .second, .val (.long ((p1.toUInt64 >>> ((32 : Int32) &&& 0x3f).toInt64.toUInt64).toInt64)), .second, .val (.long (p1 &&& (4294967295 : Int64))), .second, .val (.long ((p2.toUInt64 >>> ((32 : Int32) &&& 0x3f).toInt64.toUInt64).toInt64)), .second, .val (.long (p2 &&& (4294967295 : Int64))), .second, .unset, .unset, .unset, .unset, .unset, .unset, .unset, .unset] []))
    refine Goes.on (fun t k => XS.lload X0.here hx rfl (hb hby d2_33) rfl k) ?_
    show Goes p e below QQ (s₁.setTop (mkF m 35 #[.val (.long p1), .second, .val (.long p2), .second, .val (.long ((p1.toUInt64 >>> ((32 : Int32) &&& 0x3f).toInt64.toUInt64).toInt64)), .second, .val (.long (p1 &&& (4294967295 : Int64))), .second, .val (.long ((p2.toUInt64 >>> ((32 : Int32) &&& 0x3f).toInt64.toUInt64).toInt64)), .second, .val (.long (p2 &&& (4294967295 : Int64))), .second, .unset, .unset, .unset, .unset, .unset, .unset, .unset, .unset] [(.long ((p2.toUInt64 >>> ((32 : Int32) &&& 0x3f).toInt64.toUInt64).toInt64))]))
    refine Goes.on (fun t k => XS.lconst X0.here hx rfl (hb hby d2_35) k) ?_
    show Goes p e below QQ (s₁.setTop (mkF m 36 #[.val (.long p1), .second, .val (.long p2), .second, .val (.long ((p1.toUInt64 >>> ((32 : Int32) &&& 0x3f).toInt64.toUInt64).toInt64)), .second, .val (.long (p1 &&& (4294967295 : Int64))), .second, .val (.long ((p2.toUInt64 >>> ((32 : Int32) &&& 0x3f).toInt64.toUInt64).toInt64)), .second, .val (.long (p2 &&& (4294967295 : Int64))), .second, .unset, .unset, .unset, .unset, .unset, .unset, .unset, .unset] [(.long (0 : Int64)), (.long ((p2.toUInt64 >>> ((32 : Int32) &&& 0x3f).toInt64.toUInt64).toInt64))]))
    refine Goes.on (fun t k => XS.lcmp X0.here hx rfl (hb hby d2_36) rfl k) ?_
    show Goes p e below QQ (s₁.setTop (mkF m 37 #[.val (.long p1), .second, .val (.long p2), .second, .val (.long ((p1.toUInt64 >>> ((32 : Int32) &&& 0x3f).toInt64.toUInt64).toInt64)), .second, .val (.long (p1 &&& (4294967295 : Int64))), .second, .val (.long ((p2.toUInt64 >>> ((32 : Int32) &&& 0x3f).toInt64.toUInt64).toInt64)), .second, .val (.long (p2 &&& (4294967295 : Int64))), .second, .unset, .unset, .unset, .unset, .unset, .unset, .unset, .unset] [(.int (lcmpW ((p2.toUInt64 >>> ((32 : Int32) &&& 0x3f).toInt64.toUInt64).toInt64) (0 : Int64)))]))
    by_cases hb5 : ((p2.toUInt64 >>> ((32 : Int32) &&& 0x3f).toInt64.toUInt64).toInt64) = (0 : Int64)
    · refine Goes.on (fun t k => XS.ifYes X0.here hx rfl (pc0 := 37) (pc' := 44) rfl (hb hby d2_37) rfl ((if0 _ _).trans (teq ((lw_eq ((p2.toUInt64 >>> ((32 : Int32) &&& 0x3f).toInt64.toUInt64).toInt64) (0 : Int64)).mpr hb5)).1) (by decide) (by decide) k) ?_
      show Goes p e below QQ (s₁.setTop (mkF m 44 #[.val (.long p1), .second, .val (.long p2), .second, .val (.long ((p1.toUInt64 >>> ((32 : Int32) &&& 0x3f).toInt64.toUInt64).toInt64)), .second, .val (.long (p1 &&& (4294967295 : Int64))), .second, .val (.long ((p2.toUInt64 >>> ((32 : Int32) &&& 0x3f).toInt64.toUInt64).toInt64)), .second, .val (.long (p2 &&& (4294967295 : Int64))), .second, .unset, .unset, .unset, .unset, .unset, .unset, .unset, .unset] []))
      exact J44  s₁ _ X0 e0 N0 (((if_neg hb4).trans ((if_pos hb5).trans rfl)) : (refMul p1 p2) = (refMul_44 p1 p2 ))
    · refine Goes.on (fun t k => XS.ifNo X0.here hx rfl (hb hby d2_37) rfl ((if0 _ _).trans (feq (mt (lw_eq ((p2.toUInt64 >>> ((32 : Int32) &&& 0x3f).toInt64.toUInt64).toInt64) (0 : Int64)).mp hb5)).1) k) ?_
      show Goes p e below QQ (s₁.setTop (mkF m 40 #[.val (.long p1), .second, .val (.long p2), .second, .val (.long ((p1.toUInt64 >>> ((32 : Int32) &&& 0x3f).toInt64.toUInt64).toInt64)), .second, .val (.long (p1 &&& (4294967295 : Int64))), .second, .val (.long ((p2.toUInt64 >>> ((32 : Int32) &&& 0x3f).toInt64.toUInt64).toInt64)), .second, .val (.long (p2 &&& (4294967295 : Int64))), .second, .unset, .unset, .unset, .unset, .unset, .unset, .unset, .unset] []))
      refine Goes.on (fun t k => X0.ldc2Long hx hown (mvT hZ (hw _ (List.mem_of_getElem? (i := 0) rfl))) (g := (mkF m 40 #[.val (.long p1), .second, .val (.long p2), .second, .val (.long ((p1.toUInt64 >>> ((32 : Int32) &&& 0x3f).toInt64.toUInt64).toInt64)), .second, .val (.long (p1 &&& (4294967295 : Int64))), .second, .val (.long ((p2.toUInt64 >>> ((32 : Int32) &&& 0x3f).toInt64.toUInt64).toInt64)), .second, .val (.long (p2 &&& (4294967295 : Int64))), .second, .unset, .unset, .unset, .unset, .unset, .unset, .unset, .unset] [])) rfl (hb hby d2_40) t k) ?_
      show Goes p e below QQ (s₁.setTop (mkF m 43 #[.val (.long p1), .second, .val (.long p2), .second, .val (.long ((p1.toUInt64 >>> ((32 : Int32) &&& 0x3f).toInt64.toUInt64).toInt64)), .second, .val (.long (p1 &&& (4294967295 : Int64))), .second, .val (.long ((p2.toUInt64 >>> ((32 : Int32) &&& 0x3f).toInt64.toUInt64).toInt64)), .second, .val (.long (p2 &&& (4294967295 : Int64))), .second, .unset, .unset, .unset, .unset, .unset, .unset, .unset, .unset] [(.long (9223372036854775807 : Int64))]))
      exact Goes.rJ X0 hx hret hlk (hb hby d2_43) hQQ ⟨congrArg (fun z => some (Value.long z)) (((if_neg hb4).trans ((if_neg hb5).trans rfl)) : (refMul p1 p2) = (9223372036854775807 : Int64)).symm, N0, e0⟩ (by decide) (by decide)
theorem pn_0 : plainFor x = true := plainFor_of_name (show plainName "com/example/threadline/threadline/util/SaturatingMultiplyPinLaw" = true by first | (simp [plainName, overriddenIn]; done) | decide +kernel)
theorem ef_rm0 (m : MethodId) (x0 : Int64) (x1 : Int64) (x2 : Int32) (x3 : Int32) : entryFrame m #[(.long x0), (.long x1), (.int x2), (.int x3)] maxLocals = mkF m 0 #[.val (.long x0), .second, .val (.long x1), .second, iv x2, iv x3, .unset, .unset, .unset, .unset] [] := by first | (simp [entryFrame, mkF, argsToLocals, Value.category, maxLocals]; done) | rfl
theorem pd_0 : parseMethodDescriptor "(JJ)J" = some ⟨[.long, .long], some .long⟩ := by decide +kernel
def lawF (p1 p2 : Int64) (p3 p4 : Int32) : Int32 := (if (satMul (((p1 &&& (9223372036854775807 : Int64)).toUInt64 >>> ((p3 &&& (63 : Int32)) &&& 0x3f).toInt64.toUInt64).toInt64) (((p2 &&& (9223372036854775807 : Int64)).toUInt64 >>> ((p4 &&& (63 : Int32)) &&& 0x3f).toInt64.toUInt64).toInt64)) = (refMul (((p1 &&& (9223372036854775807 : Int64)).toUInt64 >>> ((p3 &&& (63 : Int32)) &&& 0x3f).toInt64.toUInt64).toInt64) (((p2 &&& (9223372036854775807 : Int64)).toUInt64 >>> ((p4 &&& (63 : Int32)) &&& 0x3f).toInt64.toUInt64).toInt64)) then (1 : Int32) else (0 : Int32))
theorem own_eq0 (y : Int64) : y = (0 : Int64) ↔ y.toInt = 0 := by
  rw [← Int64.toInt_inj, (by decide : (0 : Int64).toInt = 0)]
theorem own_lt0 (y : Int64) : y < (0 : Int64) ↔ y.toInt < 0 := by
  rw [Int64.lt_iff_toInt_lt, (by decide : (0 : Int64).toInt = 0)]
theorem own_max : (9223372036854775807 : Int64).toInt = 9223372036854775807 := by decide
theorem own_satI (a b : Int64) (ha : 0 ≤ a.toInt) (hb : 0 ≤ b.toInt) : (satMul a b).toInt = if a.toInt * b.toInt ≤ 9223372036854775807 then a.toInt * b.toInt else 9223372036854775807 := by
  have ra := rng64 a
  have rb := rng64 b
  have q := c_lmul a b
  have r := rng64 (a * b)
  unfold satMul
  by_cases h0 : a = (0 : Int64)
  · rw [if_pos h0]
    have z := (own_eq0 a).mp h0
    rw [z, Int.zero_mul] at q
    rw [z, Int.zero_mul, if_pos (by decide)]
    omega
  · rw [if_neg h0]
    have z : 0 < a.toInt := by
      have : ¬ a.toInt = 0 := fun q => h0 ((own_eq0 a).mpr q)
      omega
    have hm1 : a ≠ -1 := by
      intro e
      rw [e] at ha
      exact absurd ha (by decide)
    have d := (c_ldiv (9223372036854775807 : Int64) a a.toInt rfl hm1).1 (by decide)
    rw [own_max] at d
    have key : 9223372036854775807 / a.toInt < b.toInt ↔ 9223372036854775807 < b.toInt * a.toInt := Int.ediv_lt_iff_lt_mul z
    rw [Int.mul_comm b.toInt a.toInt] at key
    by_cases h1 : ((9223372036854775807 : Int64) / a) < b
    · rw [if_pos h1, own_max]
      rw [Int64.lt_iff_toInt_lt, d] at h1
      have := key.mp h1
      rw [if_neg (by omega)]
    · rw [if_neg h1]
      rw [Int64.lt_iff_toInt_lt, d] at h1
      have : ¬ 9223372036854775807 < a.toInt * b.toInt := fun z => h1 (key.mpr z)
      have hp : 0 ≤ a.toInt * b.toInt := Int.mul_nonneg ha hb
      generalize a.toInt * b.toInt = P at *
      rw [if_pos (by omega)]
      omega
theorem own_prod (x1 y1 X Y : Int) (hx : 0 ≤ x1) (hX : x1 ≤ X) (hy : 0 ≤ y1) (hY : y1 ≤ Y) : 0 ≤ x1 * y1 ∧ x1 * y1 ≤ X * Y :=
  ⟨Int.mul_nonneg hx hy, Int.mul_le_mul hX hY hy (Int.le_trans hx hX)⟩
theorem own_exp (x1 y1 z1 w1 : Int) : (x1 * 4294967296 + y1) * (z1 * 4294967296 + w1) = x1 * z1 * 18446744073709551616 + (x1 * w1 + y1 * z1) * 4294967296 + y1 * w1 := by
  have e1 : x1 * 4294967296 * (z1 * 4294967296) = x1 * z1 * 18446744073709551616 := by
    rw [Int.mul_assoc, ← Int.mul_assoc 4294967296 z1, Int.mul_comm 4294967296 z1, Int.mul_assoc z1, ← Int.mul_assoc x1]
    rfl
  have e2 : x1 * 4294967296 * w1 = x1 * w1 * 4294967296 := by
    rw [Int.mul_assoc, Int.mul_comm 4294967296 w1, ← Int.mul_assoc]
  have e3 : y1 * (z1 * 4294967296) = y1 * z1 * 4294967296 := by rw [Int.mul_assoc]
  rw [Int.add_mul, Int.mul_add, Int.mul_add, e1, e2, e3, Int.add_mul]
  omega
theorem own_refI (a b : Int64) (ha : 0 ≤ a.toInt) (hb : 0 ≤ b.toInt) : (refMul a b).toInt = if a.toInt * b.toInt ≤ 9223372036854775807 then a.toInt * b.toInt else 9223372036854775807 := by
  have ra := rng64 a
  have rb := rng64 b
  have h1 := c_lushr a 32 32 (by decide) (by decide)
  have h2 := c_maskL a 4294967295 32 (by decide) (by decide)
  have h3 := c_lushr b 32 32 (by decide) (by decide)
  have h4 := c_maskL b 4294967295 32 (by decide) (by decide)
  unfold refMul refMul_44
  generalize ((a.toUInt64 >>> ((32 : Int32) &&& 0x3f).toInt64.toUInt64).toInt64) = ah at *
  generalize ((b.toUInt64 >>> ((32 : Int32) &&& 0x3f).toInt64.toUInt64).toInt64) = bh at *
  generalize (a &&& (4294967295 : Int64)) = al at *
  generalize (b &&& (4294967295 : Int64)) = bl at *
  have eA : a.toInt = ah.toInt * 4294967296 + al.toInt := by omega
  have eB : b.toInt = bh.toInt * 4294967296 + bl.toInt := by omega
  have bA : 0 ≤ ah.toInt ∧ ah.toInt ≤ 2147483647 := by omega
  have bB : 0 ≤ bh.toInt ∧ bh.toInt ≤ 2147483647 := by omega
  have bAl : 0 ≤ al.toInt ∧ al.toInt ≤ 4294967295 := by omega
  have bBl : 0 ≤ bl.toInt ∧ bl.toInt ≤ 4294967295 := by omega
  have eP : a.toInt * b.toInt = ah.toInt * bh.toInt * 18446744073709551616 + (ah.toInt * bl.toInt + al.toInt * bh.toInt) * 4294967296 + al.toInt * bl.toInt := by
    rw [eA, eB]; exact own_exp _ _ _ _
  have p1 := own_prod _ _ _ _ bA.1 bA.2 bBl.1 bBl.2
  have p2 := own_prod _ _ _ _ bAl.1 bAl.2 bB.1 bB.2
  have p3 := own_prod _ _ _ _ bAl.1 bAl.2 bBl.1 bBl.2
  have p4 := own_prod _ _ _ _ bA.1 bA.2 bB.1 bB.2
  have m1 := c_lmul ah bl
  have m2 := c_lmul al bh
  have m3 := c_lmul al bl
  have m4 := c_ladd (ah * bl) (al * bh)
  have r1 := rng64 (ah * bl)
  have r2 := rng64 (al * bh)
  have r3 := rng64 (al * bl)
  have r4 := rng64 (ah * bl + al * bh)
  have s1 := c_lushr (ah * bl + al * bh) 31 31 (by decide) (by decide)
  have s2 := c_lshl (ah * bl + al * bh) 32 32 (by decide)
  have r5 := rng64 ((ah * bl + al * bh) <<< ((32 : Int32) &&& 0x3f).toInt64)
  have m5 := c_ladd ((ah * bl + al * bh) <<< ((32 : Int32) &&& 0x3f).toInt64) (al * bl)
  have r6 := rng64 (((ah * bl + al * bh) <<< ((32 : Int32) &&& 0x3f).toInt64) + (al * bl))
  generalize a.toInt * b.toInt = P at *
  have core : (ah.toInt = 0 ∨ bh.toInt = 0) → (if (((ah * bl + al * bh).toUInt64 >>> ((31 : Int32) &&& 0x3f).toInt64.toUInt64).toInt64) = (0 : Int64) then (if (al * bl) < (0 : Int64) then (9223372036854775807 : Int64) else (if (((ah * bl + al * bh) <<< ((32 : Int32) &&& 0x3f).toInt64) + (al * bl)) < (0 : Int64) then (9223372036854775807 : Int64) else (((ah * bl + al * bh) <<< ((32 : Int32) &&& 0x3f).toInt64) + (al * bl)))) else (9223372036854775807 : Int64)).toInt = if P ≤ 9223372036854775807 then P else 9223372036854775807 := by
    intro hz
    have z4 : ah.toInt * bh.toInt = 0 := by
      rcases hz with z | z
      · rw [z, Int.zero_mul]
      · rw [z, Int.mul_zero]
    have zc : ah.toInt * bl.toInt = 0 ∨ al.toInt * bh.toInt = 0 := by
      rcases hz with z | z
      · exact Or.inl (by rw [z, Int.zero_mul])
      · exact Or.inr (by rw [z, Int.mul_zero])
    rw [z4] at eP
    generalize ah.toInt * bl.toInt = c1 at *
    generalize al.toInt * bh.toInt = c2 at *
    generalize al.toInt * bl.toInt = d1 at *
    generalize (((ah * bl + al * bh).toUInt64 >>> ((31 : Int32) &&& 0x3f).toInt64.toUInt64).toInt64) = t1 at *
    generalize (((ah * bl + al * bh) <<< ((32 : Int32) &&& 0x3f).toInt64) + (al * bl)) = t2 at *
    generalize ((ah * bl + al * bh) <<< ((32 : Int32) &&& 0x3f).toInt64) = t3 at *
    generalize (ah * bl + al * bh) = t4 at *
    generalize (ah * bl) = t5 at *
    generalize (al * bh) = t6 at *
    generalize (al * bl) = t7 at *
    by_cases g1 : t1 = (0 : Int64)
    · rw [if_pos g1]
      rw [own_eq0] at g1
      by_cases g2 : t7 < (0 : Int64)
      · rw [if_pos g2, own_max]
        rw [own_lt0] at g2
        rw [if_neg (by omega)]
      · rw [if_neg g2]
        rw [own_lt0] at g2
        by_cases g3 : t2 < (0 : Int64)
        · rw [if_pos g3, own_max]
          rw [own_lt0] at g3
          rw [if_neg (by omega)]
        · rw [if_neg g3]
          rw [own_lt0] at g3
          rw [if_pos (by omega)]
          omega
    · rw [if_neg g1, own_max]
      rw [own_eq0] at g1
      rw [if_neg (by omega)]
  by_cases g1 : ah = (0 : Int64)
  · rw [if_pos g1]
    exact core (Or.inl ((own_eq0 ah).mp g1))
  · rw [if_neg g1]
    by_cases g2 : bh = (0 : Int64)
    · rw [if_pos g2]
      exact core (Or.inr ((own_eq0 bh).mp g2))
    · rw [if_neg g2, own_max]
      have n1 : ¬ ah.toInt = 0 := fun z => g1 ((own_eq0 ah).mpr z)
      have n2 : ¬ bh.toInt = 0 := fun z => g2 ((own_eq0 bh).mpr z)
      have p5 : 1 * 1 ≤ ah.toInt * bh.toInt := Int.mul_le_mul (by omega) (by omega) (by omega) (by omega)
      generalize ah.toInt * bh.toInt = c3 at *
      generalize ah.toInt * bl.toInt = c1 at *
      generalize al.toInt * bh.toInt = c2 at *
      generalize al.toInt * bl.toInt = d1 at *
      rw [if_neg (by omega)]
theorem own_shrpos (y : Int64) (h : 0 ≤ y.toInt) (k : UInt64) : 0 ≤ ((y.toUInt64 >>> k).toInt64).toInt := by
  have hy : y.toUInt64.toNat < 9223372036854775808 := by
    have e : y.toInt = y.toBitVec.toInt := rfl
    have e2 : y.toUInt64.toNat = y.toBitVec.toNat := rfl
    rw [e, BitVec.toInt_eq_toNat_cond] at h
    have hl := y.toBitVec.isLt
    split at h <;> omega
  have hs : (y.toUInt64 >>> k).toNat ≤ y.toUInt64.toNat := by
    rw [UInt64.toNat_shiftRight, Nat.shiftRight_eq_div_pow]
    exact Nat.div_le_self _ _
  have e3 : ((y.toUInt64 >>> k).toInt64).toInt = (y.toUInt64 >>> k).toBitVec.toInt := rfl
  have e4 : (y.toUInt64 >>> k).toBitVec.toNat = (y.toUInt64 >>> k).toNat := rfl
  rw [e3, BitVec.toInt_eq_toNat_cond, if_pos (by rw [e4]; omega)]
  omega
theorem lawT (p1 p2 : Int64) (p3 p4 : Int32) : lawF p1 p2 p3 p4 = 1 := by
  unfold lawF
  have q1 := own_shrpos (p1 &&& (9223372036854775807 : Int64)) (by rw [c_maskL p1 9223372036854775807 63 (by decide) (by decide)]; omega) ((p3 &&& (63 : Int32)) &&& 0x3f).toInt64.toUInt64
  have q2 := own_shrpos (p2 &&& (9223372036854775807 : Int64)) (by rw [c_maskL p2 9223372036854775807 63 (by decide) (by decide)]; omega) ((p4 &&& (63 : Int32)) &&& 0x3f).toInt64.toUInt64
  rw [if_pos]
  apply Int64.toInt_inj.mp
  rw [own_satI _ _ q1 q2, own_refI _ _ q1 q2]
set_option maxRecDepth 65536 in
set_option maxHeartbeats 40000000 in
theorem rm0 (l : Launch) (Z : State) (a0 : Array Value) (hw : ∀ d ∈ tables_1, d.before a0 Z = true) (ws : List Jvm.Cond) (p1 p2 : Int64) (p3 p4 : Int32) (h0 : Heap) (n0 : Nat) (Z0 : n0 ≤ h0.size)  :
    MetFree l x (head1 (Jvm.Cond.code x code maxLocals ret :: ws) room_1) (fun a U => a = #[(.long p1), (.long p2), (.int p3), (.int p4)] ∧ Z.Warmed39 U.vm ∧ U.heap = h0) (fun _ _ _ _ _ => True) (fun _ U o U' => ∃ v L, o = .returned v ∧ QL n0 v U'.heap L ∧ FrameEnd U o U' L 0 0) := by
  refine own_enter pn_0 ?_
  intro p e s m below meth c s₁ QQ hQQ hx hby hml hown hnm hret hlk hZ X0 e0
  have hown : s.vm.findClass "com/example/threadline/threadline/util/SaturatingMultiplyPinLaw" = some m.cls := hown
  have hml : c.maxLocals = 10 := hml
  have hret : meth.sig.returnType = some .boolean := hret
  have N0 := Fr.nil n0
  have K0 := Keep.refl h0 []
  refine Goes.cast (ef_rm0 m p1 p2 p3 p4) ?_
  show Goes p e below QQ (s₁.setTop (mkF m 0 #[.val (.long p1), .second, .val (.long p2), .second, iv p3, iv p4, .unset, .unset, .unset, .unset] []))
  refine Goes.on (fun t k => XS.lloadN X0.here hx rfl (hb hby at_0) rfl k) ?_
  show Goes p e below QQ (s₁.setTop (mkF m 1 #[.val (.long p1), .second, .val (.long p2), .second, iv p3, iv p4, .unset, .unset, .unset, .unset] [(.long p1)]))
  refine Goes.on (fun t k => X0.ldc2Long hx hown (mvT hZ (hw _ (List.mem_of_getElem? (i := 0) rfl))) (g := (mkF m 1 #[.val (.long p1), .second, .val (.long p2), .second, iv p3, iv p4, .unset, .unset, .unset, .unset] [(.long p1)])) rfl (hb hby at_1) t k) ?_
  show Goes p e below QQ (s₁.setTop (mkF m 4 #[.val (.long p1), .second, .val (.long p2), .second, iv p3, iv p4, .unset, .unset, .unset, .unset] [(.long (9223372036854775807 : Int64)), (.long p1)]))
  refine Goes.on (fun t k => XS.land X0.here hx rfl (hb hby at_4) rfl k) ?_
  show Goes p e below QQ (s₁.setTop (mkF m 5 #[.val (.long p1), .second, .val (.long p2), .second, iv p3, iv p4, .unset, .unset, .unset, .unset] [(.long (p1 &&& (9223372036854775807 : Int64)))]))
  refine Goes.on (fun t k => XS.iload X0.here hx rfl (hb hby at_5) rfl k) ?_
  show Goes p e below QQ (s₁.setTop (mkF m 7 #[.val (.long p1), .second, .val (.long p2), .second, iv p3, iv p4, .unset, .unset, .unset, .unset] [(.int p3), (.long (p1 &&& (9223372036854775807 : Int64)))]))
  refine Goes.on (fun t k => XS.bipush X0.here hx rfl (hb hby at_7) k) ?_
  show Goes p e below QQ (s₁.setTop (mkF m 9 #[.val (.long p1), .second, .val (.long p2), .second, iv p3, iv p4, .unset, .unset, .unset, .unset] [(.int 63), (.int p3), (.long (p1 &&& (9223372036854775807 : Int64)))]))
  refine Goes.on (fun t k => XS.iand X0.here hx rfl (hb hby at_9) rfl k) ?_
  show Goes p e below QQ (s₁.setTop (mkF m 10 #[.val (.long p1), .second, .val (.long p2), .second, iv p3, iv p4, .unset, .unset, .unset, .unset] [(.int (p3 &&& (63 : Int32))), (.long (p1 &&& (9223372036854775807 : Int64)))]))
  refine Goes.on (fun t k => XS.lushr X0.here hx rfl (hb hby at_10) rfl k) ?_
  show Goes p e below QQ (s₁.setTop (mkF m 11 #[.val (.long p1), .second, .val (.long p2), .second, iv p3, iv p4, .unset, .unset, .unset, .unset] [(.long (((p1 &&& (9223372036854775807 : Int64)).toUInt64 >>> ((p3 &&& (63 : Int32)) &&& 0x3f).toInt64.toUInt64).toInt64))]))
  refine Goes.on (fun t k => XS.lstore X0.here hx rfl (hb hby at_11) rfl (l' := #[.val (.long p1), .second, .val (.long p2), .second, iv p3, iv p4, .val (.long (((p1 &&& (9223372036854775807 : Int64)).toUInt64 >>> ((p3 &&& (63 : Int32)) &&& 0x3f).toInt64.toUInt64).toInt64)), .second, .unset, .unset]) rfl k) ?_
  show Goes p e below QQ (s₁.setTop (mkF m 13 #[.val (.long p1), .second, .val (.long p2), .second, iv p3, iv p4, .val (.long (((p1 &&& (9223372036854775807 : Int64)).toUInt64 >>> ((p3 &&& (63 : Int32)) &&& 0x3f).toInt64.toUInt64).toInt64)), .second, .unset, .unset] []))
  refine Goes.on (fun t k => XS.lloadN X0.here hx rfl (hb hby at_13) rfl k) ?_
  show Goes p e below QQ (s₁.setTop (mkF m 14 #[.val (.long p1), .second, .val (.long p2), .second, iv p3, iv p4, .val (.long (((p1 &&& (9223372036854775807 : Int64)).toUInt64 >>> ((p3 &&& (63 : Int32)) &&& 0x3f).toInt64.toUInt64).toInt64)), .second, .unset, .unset] [(.long p2)]))
  refine Goes.on (fun t k => X0.ldc2Long hx hown (mvT hZ (hw _ (List.mem_of_getElem? (i := 0) rfl))) (g := (mkF m 14 #[.val (.long p1), .second, .val (.long p2), .second, iv p3, iv p4, .val (.long (((p1 &&& (9223372036854775807 : Int64)).toUInt64 >>> ((p3 &&& (63 : Int32)) &&& 0x3f).toInt64.toUInt64).toInt64)), .second, .unset, .unset] [(.long p2)])) rfl (hb hby at_14) t k) ?_
  show Goes p e below QQ (s₁.setTop (mkF m 17 #[.val (.long p1), .second, .val (.long p2), .second, iv p3, iv p4, .val (.long (((p1 &&& (9223372036854775807 : Int64)).toUInt64 >>> ((p3 &&& (63 : Int32)) &&& 0x3f).toInt64.toUInt64).toInt64)), .second, .unset, .unset] [(.long (9223372036854775807 : Int64)), (.long p2)]))
  refine Goes.on (fun t k => XS.land X0.here hx rfl (hb hby at_17) rfl k) ?_
  show Goes p e below QQ (s₁.setTop (mkF m 18 #[.val (.long p1), .second, .val (.long p2), .second, iv p3, iv p4, .val (.long (((p1 &&& (9223372036854775807 : Int64)).toUInt64 >>> ((p3 &&& (63 : Int32)) &&& 0x3f).toInt64.toUInt64).toInt64)), .second, .unset, .unset] [(.long (p2 &&& (9223372036854775807 : Int64)))]))
  refine Goes.on (fun t k => XS.iload X0.here hx rfl (hb hby at_18) rfl k) ?_
  show Goes p e below QQ (s₁.setTop (mkF m 20 #[.val (.long p1), .second, .val (.long p2), .second, iv p3, iv p4, .val (.long (((p1 &&& (9223372036854775807 : Int64)).toUInt64 >>> ((p3 &&& (63 : Int32)) &&& 0x3f).toInt64.toUInt64).toInt64)), .second, .unset, .unset] [(.int p4), (.long (p2 &&& (9223372036854775807 : Int64)))]))
  refine Goes.on (fun t k => XS.bipush X0.here hx rfl (hb hby at_20) k) ?_
  show Goes p e below QQ (s₁.setTop (mkF m 22 #[.val (.long p1), .second, .val (.long p2), .second, iv p3, iv p4, .val (.long (((p1 &&& (9223372036854775807 : Int64)).toUInt64 >>> ((p3 &&& (63 : Int32)) &&& 0x3f).toInt64.toUInt64).toInt64)), .second, .unset, .unset] [(.int 63), (.int p4), (.long (p2 &&& (9223372036854775807 : Int64)))]))
  refine Goes.on (fun t k => XS.iand X0.here hx rfl (hb hby at_22) rfl k) ?_
  show Goes p e below QQ (s₁.setTop (mkF m 23 #[.val (.long p1), .second, .val (.long p2), .second, iv p3, iv p4, .val (.long (((p1 &&& (9223372036854775807 : Int64)).toUInt64 >>> ((p3 &&& (63 : Int32)) &&& 0x3f).toInt64.toUInt64).toInt64)), .second, .unset, .unset] [(.int (p4 &&& (63 : Int32))), (.long (p2 &&& (9223372036854775807 : Int64)))]))
  refine Goes.on (fun t k => XS.lushr X0.here hx rfl (hb hby at_23) rfl k) ?_
  show Goes p e below QQ (s₁.setTop (mkF m 24 #[.val (.long p1), .second, .val (.long p2), .second, iv p3, iv p4, .val (.long (((p1 &&& (9223372036854775807 : Int64)).toUInt64 >>> ((p3 &&& (63 : Int32)) &&& 0x3f).toInt64.toUInt64).toInt64)), .second, .unset, .unset] [(.long (((p2 &&& (9223372036854775807 : Int64)).toUInt64 >>> ((p4 &&& (63 : Int32)) &&& 0x3f).toInt64.toUInt64).toInt64))]))
  refine Goes.on (fun t k => XS.lstore X0.here hx rfl (hb hby at_24) rfl (l' := #[.val (.long p1), .second, .val (.long p2), .second, iv p3, iv p4, .val (.long (((p1 &&& (9223372036854775807 : Int64)).toUInt64 >>> ((p3 &&& (63 : Int32)) &&& 0x3f).toInt64.toUInt64).toInt64)), .second, .val (.long (((p2 &&& (9223372036854775807 : Int64)).toUInt64 >>> ((p4 &&& (63 : Int32)) &&& 0x3f).toInt64.toUInt64).toInt64)), .second]) rfl k) ?_
  show Goes p e below QQ (s₁.setTop (mkF m 26 #[.val (.long p1), .second, .val (.long p2), .second, iv p3, iv p4, .val (.long (((p1 &&& (9223372036854775807 : Int64)).toUInt64 >>> ((p3 &&& (63 : Int32)) &&& 0x3f).toInt64.toUInt64).toInt64)), .second, .val (.long (((p2 &&& (9223372036854775807 : Int64)).toUInt64 >>> ((p4 &&& (63 : Int32)) &&& 0x3f).toInt64.toUInt64).toInt64)), .second] []))
  refine Goes.on (fun t k => XS.lload X0.here hx rfl (hb hby at_26) rfl k) ?_
  show Goes p e below QQ (s₁.setTop (mkF m 28 #[.val (.long p1), .second, .val (.long p2), .second, iv p3, iv p4, .val (.long (((p1 &&& (9223372036854775807 : Int64)).toUInt64 >>> ((p3 &&& (63 : Int32)) &&& 0x3f).toInt64.toUInt64).toInt64)), .second, .val (.long (((p2 &&& (9223372036854775807 : Int64)).toUInt64 >>> ((p4 &&& (63 : Int32)) &&& 0x3f).toInt64.toUInt64).toInt64)), .second] [(.long (((p1 &&& (9223372036854775807 : Int64)).toUInt64 >>> ((p3 &&& (63 : Int32)) &&& 0x3f).toInt64.toUInt64).toInt64))]))
  refine Goes.on (fun t k => XS.lload X0.here hx rfl (hb hby at_28) rfl k) ?_
  show Goes p e below QQ (s₁.setTop (mkF m 30 #[.val (.long p1), .second, .val (.long p2), .second, iv p3, iv p4, .val (.long (((p1 &&& (9223372036854775807 : Int64)).toUInt64 >>> ((p3 &&& (63 : Int32)) &&& 0x3f).toInt64.toUInt64).toInt64)), .second, .val (.long (((p2 &&& (9223372036854775807 : Int64)).toUInt64 >>> ((p4 &&& (63 : Int32)) &&& 0x3f).toInt64.toUInt64).toInt64)), .second] [(.long (((p2 &&& (9223372036854775807 : Int64)).toUInt64 >>> ((p4 &&& (63 : Int32)) &&& 0x3f).toInt64.toUInt64).toInt64)), (.long (((p1 &&& (9223372036854775807 : Int64)).toUInt64 >>> ((p3 &&& (63 : Int32)) &&& 0x3f).toInt64.toUInt64).toInt64))]))
  obtain ⟨_, _, ⟨T1, L1, k1, n1⟩, -, X1, ⟨Lc1, hQ1, l1, y1, z1⟩, st1⟩ := Jvm.LawKit.callS X0 hx (y := (⟨"com/example/threadline/threadline/util/Saturating", "multiply", "(JJ)J"⟩ : MethodName)) hown (mvT hZ (hw _ (List.mem_of_getElem? (i := 1) rfl))) (mvT hZ (hw _ (List.mem_of_getElem? (i := 2) rfl))) (mvT hZ (hw _ (List.mem_of_getElem? (i := 3) rfl))) (mvT hZ (hw _ (List.mem_of_getElem? (i := 4) rfl))) (by decide) (backOf (W := 0) (rm1 l Z a0 hw [] (((p1 &&& (9223372036854775807 : Int64)).toUInt64 >>> ((p3 &&& (63 : Int32)) &&& 0x3f).toInt64.toUInt64).toInt64) (((p2 &&& (9223372036854775807 : Int64)).toUInt64 >>> ((p4 &&& (63 : Int32)) &&& 0x3f).toInt64.toUInt64).toInt64) h0 n0 (Nat.le_trans Z0 K0.1) ) hZ (hw _ (List.mem_of_getElem? (i := 4) rfl)) (hw _ (List.mem_of_getElem? (i := 3) rfl)) (by decide) (by decide)) (g := (mkF m 30 #[.val (.long p1), .second, .val (.long p2), .second, iv p3, iv p4, .val (.long (((p1 &&& (9223372036854775807 : Int64)).toUInt64 >>> ((p3 &&& (63 : Int32)) &&& 0x3f).toInt64.toUInt64).toInt64)), .second, .val (.long (((p2 &&& (9223372036854775807 : Int64)).toUInt64 >>> ((p4 &&& (63 : Int32)) &&& 0x3f).toInt64.toUInt64).toInt64)), .second] [(.long (((p2 &&& (9223372036854775807 : Int64)).toUInt64 >>> ((p4 &&& (63 : Int32)) &&& 0x3f).toInt64.toUInt64).toInt64)), (.long (((p1 &&& (9223372036854775807 : Int64)).toUInt64 >>> ((p3 &&& (63 : Int32)) &&& 0x3f).toInt64.toUInt64).toInt64))])) rfl (by rw [hml]; rfl) (argsL := [(.long (((p1 &&& (9223372036854775807 : Int64)).toUInt64 >>> ((p3 &&& (63 : Int32)) &&& 0x3f).toInt64.toUInt64).toInt64)), (.long (((p2 &&& (9223372036854775807 : Int64)).toUInt64 >>> ((p4 &&& (63 : Int32)) &&& 0x3f).toInt64.toUInt64).toInt64))]) (rest := []) (lenOf pd_0 rfl) rfl (by show 2 * 0 + _ ≤ _; exact Nat.le_of_eq rfl) (hb hby at_30) (fun _ _ => ⟨rfl, e0, (by decide : 0 + 0 ≤ _), (by decide : 0 + 0 ≤ _)⟩)
  dsimp only [Pt.U, Pt.locs, Pt.cells, Pt.slots] at X1 l1 y1 z1 st1 hQ1
  subst l1 y1 z1
  obtain ⟨rfl, M1, e1⟩ := hQ1
  have N1 := Fr.app N0 M1
  refine Goes.on (fun t k => st1 _ k) ?_
  show Goes p e below QQ (T1.setTop (mkF m 33 #[.val (.long p1), .second, .val (.long p2), .second, iv p3, iv p4, .val (.long (((p1 &&& (9223372036854775807 : Int64)).toUInt64 >>> ((p3 &&& (63 : Int32)) &&& 0x3f).toInt64.toUInt64).toInt64)), .second, .val (.long (((p2 &&& (9223372036854775807 : Int64)).toUInt64 >>> ((p4 &&& (63 : Int32)) &&& 0x3f).toInt64.toUInt64).toInt64)), .second] [(.long (satMul (((p1 &&& (9223372036854775807 : Int64)).toUInt64 >>> ((p3 &&& (63 : Int32)) &&& 0x3f).toInt64.toUInt64).toInt64) (((p2 &&& (9223372036854775807 : Int64)).toUInt64 >>> ((p4 &&& (63 : Int32)) &&& 0x3f).toInt64.toUInt64).toInt64)))]))
  refine Goes.on (fun t k => XS.lload X1.here hx rfl (hb hby at_33) rfl k) ?_
  show Goes p e below QQ (T1.setTop (mkF m 35 #[.val (.long p1), .second, .val (.long p2), .second, iv p3, iv p4, .val (.long (((p1 &&& (9223372036854775807 : Int64)).toUInt64 >>> ((p3 &&& (63 : Int32)) &&& 0x3f).toInt64.toUInt64).toInt64)), .second, .val (.long (((p2 &&& (9223372036854775807 : Int64)).toUInt64 >>> ((p4 &&& (63 : Int32)) &&& 0x3f).toInt64.toUInt64).toInt64)), .second] [(.long (((p1 &&& (9223372036854775807 : Int64)).toUInt64 >>> ((p3 &&& (63 : Int32)) &&& 0x3f).toInt64.toUInt64).toInt64)), (.long (satMul (((p1 &&& (9223372036854775807 : Int64)).toUInt64 >>> ((p3 &&& (63 : Int32)) &&& 0x3f).toInt64.toUInt64).toInt64) (((p2 &&& (9223372036854775807 : Int64)).toUInt64 >>> ((p4 &&& (63 : Int32)) &&& 0x3f).toInt64.toUInt64).toInt64)))]))
  refine Goes.on (fun t k => XS.lload X1.here hx rfl (hb hby at_35) rfl k) ?_
  show Goes p e below QQ (T1.setTop (mkF m 37 #[.val (.long p1), .second, .val (.long p2), .second, iv p3, iv p4, .val (.long (((p1 &&& (9223372036854775807 : Int64)).toUInt64 >>> ((p3 &&& (63 : Int32)) &&& 0x3f).toInt64.toUInt64).toInt64)), .second, .val (.long (((p2 &&& (9223372036854775807 : Int64)).toUInt64 >>> ((p4 &&& (63 : Int32)) &&& 0x3f).toInt64.toUInt64).toInt64)), .second] [(.long (((p2 &&& (9223372036854775807 : Int64)).toUInt64 >>> ((p4 &&& (63 : Int32)) &&& 0x3f).toInt64.toUInt64).toInt64)), (.long (((p1 &&& (9223372036854775807 : Int64)).toUInt64 >>> ((p3 &&& (63 : Int32)) &&& 0x3f).toInt64.toUInt64).toInt64)), (.long (satMul (((p1 &&& (9223372036854775807 : Int64)).toUInt64 >>> ((p3 &&& (63 : Int32)) &&& 0x3f).toInt64.toUInt64).toInt64) (((p2 &&& (9223372036854775807 : Int64)).toUInt64 >>> ((p4 &&& (63 : Int32)) &&& 0x3f).toInt64.toUInt64).toInt64)))]))
  obtain ⟨_, _, ⟨T2, L2, k2, n2⟩, -, X2, ⟨Lc2, hQ2, l2, y2, z2⟩, st2⟩ := Jvm.LawKit.callS X1 hx (y := (⟨"com/example/threadline/threadline/util/SaturatingMultiplyPinLaw", "reference", "(JJ)J"⟩ : MethodName)) hown (mvT hZ (hw _ (List.mem_of_getElem? (i := 6) rfl))) (mvT hZ (hw _ (List.mem_of_getElem? (i := 7) rfl))) (mvT hZ (hw _ (List.mem_of_getElem? (i := 8) rfl))) (mvT hZ (hw _ (List.mem_of_getElem? (i := 9) rfl))) (by decide) (backOf (W := 2) (rm2 l Z a0 hw [] (((p1 &&& (9223372036854775807 : Int64)).toUInt64 >>> ((p3 &&& (63 : Int32)) &&& 0x3f).toInt64.toUInt64).toInt64) (((p2 &&& (9223372036854775807 : Int64)).toUInt64 >>> ((p4 &&& (63 : Int32)) &&& 0x3f).toInt64.toUInt64).toInt64) h0 n0 (Nat.le_trans Z0 K0.1) ) hZ (hw _ (List.mem_of_getElem? (i := 9) rfl)) (hw _ (List.mem_of_getElem? (i := 8) rfl)) (by decide) (by decide)) (g := (mkF m 37 #[.val (.long p1), .second, .val (.long p2), .second, iv p3, iv p4, .val (.long (((p1 &&& (9223372036854775807 : Int64)).toUInt64 >>> ((p3 &&& (63 : Int32)) &&& 0x3f).toInt64.toUInt64).toInt64)), .second, .val (.long (((p2 &&& (9223372036854775807 : Int64)).toUInt64 >>> ((p4 &&& (63 : Int32)) &&& 0x3f).toInt64.toUInt64).toInt64)), .second] [(.long (((p2 &&& (9223372036854775807 : Int64)).toUInt64 >>> ((p4 &&& (63 : Int32)) &&& 0x3f).toInt64.toUInt64).toInt64)), (.long (((p1 &&& (9223372036854775807 : Int64)).toUInt64 >>> ((p3 &&& (63 : Int32)) &&& 0x3f).toInt64.toUInt64).toInt64)), (.long (satMul (((p1 &&& (9223372036854775807 : Int64)).toUInt64 >>> ((p3 &&& (63 : Int32)) &&& 0x3f).toInt64.toUInt64).toInt64) (((p2 &&& (9223372036854775807 : Int64)).toUInt64 >>> ((p4 &&& (63 : Int32)) &&& 0x3f).toInt64.toUInt64).toInt64)))])) rfl (by rw [hml]; rfl) (argsL := [(.long (((p1 &&& (9223372036854775807 : Int64)).toUInt64 >>> ((p3 &&& (63 : Int32)) &&& 0x3f).toInt64.toUInt64).toInt64)), (.long (((p2 &&& (9223372036854775807 : Int64)).toUInt64 >>> ((p4 &&& (63 : Int32)) &&& 0x3f).toInt64.toUInt64).toInt64))]) (rest := [(.long (satMul (((p1 &&& (9223372036854775807 : Int64)).toUInt64 >>> ((p3 &&& (63 : Int32)) &&& 0x3f).toInt64.toUInt64).toInt64) (((p2 &&& (9223372036854775807 : Int64)).toUInt64 >>> ((p4 &&& (63 : Int32)) &&& 0x3f).toInt64.toUInt64).toInt64)))]) (lenOf pd_0 rfl) rfl (by show 2 * 0 + _ ≤ _; exact Nat.le_of_eq rfl) (hb hby at_37) (fun _ _ => ⟨rfl, e1, (by decide : 0 + 0 ≤ _), (by decide : 0 + 0 ≤ _)⟩)
  dsimp only [Pt.U, Pt.locs, Pt.cells, Pt.slots] at X2 l2 y2 z2 st2 hQ2
  subst l2 y2 z2
  obtain ⟨rfl, M2, e2⟩ := hQ2
  have N2 := Fr.app N1 M2
  refine Goes.on (fun t k => st2 _ k) ?_
  show Goes p e below QQ (T2.setTop (mkF m 40 #[.val (.long p1), .second, .val (.long p2), .second, iv p3, iv p4, .val (.long (((p1 &&& (9223372036854775807 : Int64)).toUInt64 >>> ((p3 &&& (63 : Int32)) &&& 0x3f).toInt64.toUInt64).toInt64)), .second, .val (.long (((p2 &&& (9223372036854775807 : Int64)).toUInt64 >>> ((p4 &&& (63 : Int32)) &&& 0x3f).toInt64.toUInt64).toInt64)), .second] [(.long (refMul (((p1 &&& (9223372036854775807 : Int64)).toUInt64 >>> ((p3 &&& (63 : Int32)) &&& 0x3f).toInt64.toUInt64).toInt64) (((p2 &&& (9223372036854775807 : Int64)).toUInt64 >>> ((p4 &&& (63 : Int32)) &&& 0x3f).toInt64.toUInt64).toInt64))), (.long (satMul (((p1 &&& (9223372036854775807 : Int64)).toUInt64 >>> ((p3 &&& (63 : Int32)) &&& 0x3f).toInt64.toUInt64).toInt64) (((p2 &&& (9223372036854775807 : Int64)).toUInt64 >>> ((p4 &&& (63 : Int32)) &&& 0x3f).toInt64.toUInt64).toInt64)))]))
  refine Goes.on (fun t k => XS.lcmp X2.here hx rfl (hb hby at_40) rfl k) ?_
  show Goes p e below QQ (T2.setTop (mkF m 41 #[.val (.long p1), .second, .val (.long p2), .second, iv p3, iv p4, .val (.long (((p1 &&& (9223372036854775807 : Int64)).toUInt64 >>> ((p3 &&& (63 : Int32)) &&& 0x3f).toInt64.toUInt64).toInt64)), .second, .val (.long (((p2 &&& (9223372036854775807 : Int64)).toUInt64 >>> ((p4 &&& (63 : Int32)) &&& 0x3f).toInt64.toUInt64).toInt64)), .second] [(.int (lcmpW (satMul (((p1 &&& (9223372036854775807 : Int64)).toUInt64 >>> ((p3 &&& (63 : Int32)) &&& 0x3f).toInt64.toUInt64).toInt64) (((p2 &&& (9223372036854775807 : Int64)).toUInt64 >>> ((p4 &&& (63 : Int32)) &&& 0x3f).toInt64.toUInt64).toInt64)) (refMul (((p1 &&& (9223372036854775807 : Int64)).toUInt64 >>> ((p3 &&& (63 : Int32)) &&& 0x3f).toInt64.toUInt64).toInt64) (((p2 &&& (9223372036854775807 : Int64)).toUInt64 >>> ((p4 &&& (63 : Int32)) &&& 0x3f).toInt64.toUInt64).toInt64))))]))
  by_cases hb3 : (satMul (((p1 &&& (9223372036854775807 : Int64)).toUInt64 >>> ((p3 &&& (63 : Int32)) &&& 0x3f).toInt64.toUInt64).toInt64) (((p2 &&& (9223372036854775807 : Int64)).toUInt64 >>> ((p4 &&& (63 : Int32)) &&& 0x3f).toInt64.toUInt64).toInt64)) = (refMul (((p1 &&& (9223372036854775807 : Int64)).toUInt64 >>> ((p3 &&& (63 : Int32)) &&& 0x3f).toInt64.toUInt64).toInt64) (((p2 &&& (9223372036854775807 : Int64)).toUInt64 >>> ((p4 &&& (63 : Int32)) &&& 0x3f).toInt64.toUInt64).toInt64))
  · refine Goes.on (fun t k => XS.ifNo X2.here hx rfl (hb hby at_41) rfl ((if0 _ _).trans (teq ((lw_eq (satMul (((p1 &&& (9223372036854775807 : Int64)).toUInt64 >>> ((p3 &&& (63 : Int32)) &&& 0x3f).toInt64.toUInt64).toInt64) (((p2 &&& (9223372036854775807 : Int64)).toUInt64 >>> ((p4 &&& (63 : Int32)) &&& 0x3f).toInt64.toUInt64).toInt64)) (refMul (((p1 &&& (9223372036854775807 : Int64)).toUInt64 >>> ((p3 &&& (63 : Int32)) &&& 0x3f).toInt64.toUInt64).toInt64) (((p2 &&& (9223372036854775807 : Int64)).toUInt64 >>> ((p4 &&& (63 : Int32)) &&& 0x3f).toInt64.toUInt64).toInt64))).mpr hb3)).2) k) ?_
    show Goes p e below QQ (T2.setTop (mkF m 44 #[.val (.long p1), .second, .val (.long p2), .second, iv p3, iv p4, .val (.long (((p1 &&& (9223372036854775807 : Int64)).toUInt64 >>> ((p3 &&& (63 : Int32)) &&& 0x3f).toInt64.toUInt64).toInt64)), .second, .val (.long (((p2 &&& (9223372036854775807 : Int64)).toUInt64 >>> ((p4 &&& (63 : Int32)) &&& 0x3f).toInt64.toUInt64).toInt64)), .second] []))
    refine Goes.on (fun t k => XS.iconst X2.here hx rfl (hb hby at_44) k) ?_
    show Goes p e below QQ (T2.setTop (mkF m 45 #[.val (.long p1), .second, .val (.long p2), .second, iv p3, iv p4, .val (.long (((p1 &&& (9223372036854775807 : Int64)).toUInt64 >>> ((p3 &&& (63 : Int32)) &&& 0x3f).toInt64.toUInt64).toInt64)), .second, .val (.long (((p2 &&& (9223372036854775807 : Int64)).toUInt64 >>> ((p4 &&& (63 : Int32)) &&& 0x3f).toInt64.toUInt64).toInt64)), .second] [(.int 1)]))
    refine Goes.on (fun t k => XS.goto X2.here hx rfl (pc0 := 45) (pc' := 49) rfl (hb hby at_45) (by decide) (by decide) k) ?_
    show Goes p e below QQ (T2.setTop (mkF m 49 #[.val (.long p1), .second, .val (.long p2), .second, iv p3, iv p4, .val (.long (((p1 &&& (9223372036854775807 : Int64)).toUInt64 >>> ((p3 &&& (63 : Int32)) &&& 0x3f).toInt64.toUInt64).toInt64)), .second, .val (.long (((p2 &&& (9223372036854775807 : Int64)).toUInt64 >>> ((p4 &&& (63 : Int32)) &&& 0x3f).toInt64.toUInt64).toInt64)), .second] [(.int 1)]))
    exact Goes.rN X2 hx (t := .boolean) hret (by simp) hlk (hb hby at_49) hQQ ⟨rfl, N2⟩ (by decide) (by decide)
  · refine Goes.on (fun t k => XS.ifYes X2.here hx rfl (pc0 := 41) (pc' := 48) rfl (hb hby at_41) rfl ((if0 _ _).trans (feq (mt (lw_eq (satMul (((p1 &&& (9223372036854775807 : Int64)).toUInt64 >>> ((p3 &&& (63 : Int32)) &&& 0x3f).toInt64.toUInt64).toInt64) (((p2 &&& (9223372036854775807 : Int64)).toUInt64 >>> ((p4 &&& (63 : Int32)) &&& 0x3f).toInt64.toUInt64).toInt64)) (refMul (((p1 &&& (9223372036854775807 : Int64)).toUInt64 >>> ((p3 &&& (63 : Int32)) &&& 0x3f).toInt64.toUInt64).toInt64) (((p2 &&& (9223372036854775807 : Int64)).toUInt64 >>> ((p4 &&& (63 : Int32)) &&& 0x3f).toInt64.toUInt64).toInt64))).mp hb3)).2) (by decide) (by decide) k) ?_
    show Goes p e below QQ (T2.setTop (mkF m 48 #[.val (.long p1), .second, .val (.long p2), .second, iv p3, iv p4, .val (.long (((p1 &&& (9223372036854775807 : Int64)).toUInt64 >>> ((p3 &&& (63 : Int32)) &&& 0x3f).toInt64.toUInt64).toInt64)), .second, .val (.long (((p2 &&& (9223372036854775807 : Int64)).toUInt64 >>> ((p4 &&& (63 : Int32)) &&& 0x3f).toInt64.toUInt64).toInt64)), .second] []))
    refine Goes.on (fun t k => XS.iconst X2.here hx rfl (hb hby at_48) k) ?_
    show Goes p e below QQ (T2.setTop (mkF m 49 #[.val (.long p1), .second, .val (.long p2), .second, iv p3, iv p4, .val (.long (((p1 &&& (9223372036854775807 : Int64)).toUInt64 >>> ((p3 &&& (63 : Int32)) &&& 0x3f).toInt64.toUInt64).toInt64)), .second, .val (.long (((p2 &&& (9223372036854775807 : Int64)).toUInt64 >>> ((p4 &&& (63 : Int32)) &&& 0x3f).toInt64.toUInt64).toInt64)), .second] [(.int 0)]))
    exact absurd ((((if_neg hb3).trans rfl) : lawF p1 p2 p3 p4 = (0 : Int32)).symm.trans (lawT p1 p2 p3 p4)) (by decide)
set_option maxRecDepth 65536 in
set_option maxHeartbeats 40000000 in
theorem comes_1 {Post : Tables → Env → Array Value → State → Outcome → State → Prop} (hpost : ∀ tb e args s v u, (limb_1_1.after args s (.returned v) u = true ∧ limb_1_2.after args s (.returned v) u = true ∧ True) → FrameEnd s (.returned v) u (Jvm.fieldLocs frame_1_writes args s ++ Jvm.arrayLocs frame_1_arrays args s ++ Jvm.staticLocs frame_1_statics s) 0 0 → Post tb e args s (.returned v) u) :
    ArmFor flags0 classFile x code maxLocals ret World_1 tables_1 room_1 Calls_1 rest_1 Pre_1 Post := by
  intro l hfl _ _ p e ha hc hk s m args below hf hA hF happ hP
  obtain ⟨hcalls, hrest, hpre⟩ := hP
  obtain ⟨-, -, -, hnamed, -, -, -, hat⟩ := (Spec.applies_iff hf).mp happ
  obtain ⟨hg, hn⟩ := and_e (Cond.before_iff.mp (show (Jvm.Cond.and given_1 narrow_1).before args s = true from hpre))
  obtain ⟨hg0, hg1⟩ := and_e hg
  obtain ⟨ga1, hg2⟩ := and_e hg1
  obtain ⟨ga2, hg3⟩ := and_e hg2
  obtain ⟨ga3, hg4⟩ := and_e hg3
  obtain ⟨w0, w1, w2, w3, rfl⟩ : ∃ w0 w1 w2 w3 : Value, args = #[w0, w1, w2, w3] := by
    have hs : args.size = 4 := by simpa [Cond.value, given_1] using hg0
    obtain ⟨L⟩ := args
    match L, hs with
    | [w0, w1, w2, w3], _ => exact ⟨w0, w1, w2, w3, rfl⟩
  have hw := fun d (hd : d ∈ tables_1) => atoms_spec (ws := Jvm.Cond.code x code maxLocals ret :: tables_1) hat d (List.mem_cons_of_mem _ hd)
  have hfit : Fit s := fun {y c} hc i hi => by
    obtain ⟨ha, rfl⟩ := Array.getElem?_eq_some_iff.mp hc
    have q := List.all_eq_true.mp ((Array.all_eq_true_iff_forall_mem.mp hF) _ (Array.getElem_mem ha)) i (List.mem_range.mpr hi)
    simpa [Array.getElem?_eq_getElem hi] using q
  obtain ⟨i0, ei0⟩ := isL_v ga1
  obtain rfl : w0 = (.long i0) := Option.some.inj ei0
  obtain ⟨i1, ei1⟩ := isL_v ga2
  obtain rfl : w1 = (.long i1) := Option.some.inj ei1
  obtain ⟨i2, ei2⟩ := is_v ga3
  obtain rfl : w2 = (.int i2) := Option.some.inj ei2
  obtain ⟨i3, ei3⟩ := is_v hg4
  obtain rfl : w3 = (.int i3) := Option.some.inj ei3
  obtain ⟨n, o, h1, h2, h3, _, L, rfl, ⟨rfl, N⟩, hq⟩ := rm0 l s _ hw tables_1 i0 i1 i2 i3 s.heap s.heap.size (Nat.le_refl _)  p e ha hc hk s m _ below hf ((Spec.applies_iff_loose hf).mp happ).1 ⟨rfl, State.Warmed39.refl s, rfl⟩ trivial
  refine ⟨n, _, h1, h2, h3, hpost _ _ _ _ _ _ ⟨Cond.after_iff.mpr rfl, Cond.after_iff.mpr (eq_i res_at (Term.int_eval (1)) rfl), trivial⟩ ⟨hq.1, hq.2.1, (hq.2.2.sift fun y hy => Or.inr (N y hy)).mono (by decide) (by decide)⟩⟩
theorem main_1_1 : Claimed_1_1 := comes_1 fun _ _ _ _ _ _ h hF => ⟨h.1, hF⟩
theorem main_1_2 : Claimed_1_2 := comes_1 fun _ _ _ _ _ _ h hF => ⟨h.2.1, hF⟩
end Jvm.Pilot.@@N@@
namespace Jvm.Pilot.@@N@@
open Jvm Jvm.ClassFile Sem Op Lib Jvm.Free Jvm.Stand Jvm.Pilot.@@N@@.Jvm.D
/-! MADE BY PROGRAM (witnessworld.py) out of the Statement's table words and the real class files: 9 classes; the members and pool entries that the words name. The judged class is class 1, her method 2. -/
namespace start1
open Jvm.ClassFile
def u (s : String) : CpInfo := .utf8 (stringToUtf16 s)
/-- a pool by its gaps: so many unusable entries, then the entry; so many at the end -/
def gap : Nat → List CpInfo → List CpInfo
  | 0, r => r
  | n + 1, r => .unusable :: gap n r
def poolList (es : List (Nat × CpInfo)) (last : Nat) : List CpInfo := es.foldr (fun e r => gap e.1 (e.2 :: r)) (gap last [])
def pool (es : List (Nat × CpInfo)) (last : Nat) : Array CpInfo := ⟨poolList es last⟩
def fileOf (pool : Array CpInfo) (this : Nat) (attrs : Array Attribute := #[]) (ms : Array MethodInfo := #[]) (fl : Nat := 33) (sup : Nat := 0) (ifs : Array Nat := #[]) (fds : Array FieldInfo := #[]) : ClassFile where
  minorVersion := 0
  majorVersion := 65
  constantPool := pool
  accessFlags := fl
  thisClass := this
  superClass := sup
  interfaces := ifs
  fields := fds
  methods := ms
  attributes := attrs
def plain (name : String) (sup : Option ClassId) : Class where
  name := name
  kind := .ordinary
  loader := none
  accessFlags := 33
  super := sup
  interfaces := #[]
  cf := none
  fields := #[]
  methods := #[]
  instanceTypes := #[]
  staticTypes := #[]
  resolved := #[]
  callSites := []
  init := .initialized
  statics := none
  mirror := none

def pool0 : Array CpInfo := pool [(5, u "<init>"), (0, u "()V"), (1, .class_ 10), (1, u "java/lang/Object")] 113

def k0m0 : Method := { name := "<init>", desc := "()V", sig := { parameters := [], returnType := none }, accessFlags := 1, code := none }
/-- java/lang/Object -/
def k0 : Class := { plain "java/lang/Object" none with
  accessFlags := 33
  interfaces := #[]
  cf := some (fileOf pool0 8 #[] #[{ accessFlags := 1, nameIndex := 5, descriptorIndex := 6, attributes := #[] }] 33 0 #[] #[])
  fields := #[]
  methods := #[k0m0]
  instanceTypes := #[]
  staticTypes := #[]
  resolved := Array.replicate 124 none
  statics := none }

def pool1 : Array CpInfo := pool [(2, .class_ 4), (1, u "java/lang/Object"), (0, u "<init>"), (0, u "()V"), (0, .long 4294967295), (3, .long 9223372036854775807), (1, .methodref 14 15), (0, .class_ 16), (0, .nameAndType 17 18), (0, u "com/example/threadline/threadline/util/Saturating"), (0, u "multiply"), (0, u "(JJ)J"), (0, .methodref 20 21), (0, .class_ 22), (0, .nameAndType 23 18), (0, u "com/example/threadline/threadline/util/SaturatingMultiplyPinLaw"), (0, u "reference"), (3, u "law"), (0, u "(JJII)Z")] 2

def k1m0 : Method := { name := "<init>", desc := "()V", sig := { parameters := [], returnType := none }, accessFlags := 2, code := none }
def k1c1 : Code := { maxStack := 6, maxLocals := 20, code := method_2_code, exceptionTable := #[], attributes := #[] }
def k1m1 : Method := { name := "reference", desc := "(JJ)J", sig := { parameters := [.long, .long], returnType := some .long }, accessFlags := 10, code := some k1c1 }
def k1c2 : Code := { maxStack := 6, maxLocals := 10, code := code, exceptionTable := #[], attributes := #[] }
def k1m2 : Method := { name := "law", desc := "(JJII)Z", sig := { parameters := [.long, .long, .int, .int], returnType := some .boolean }, accessFlags := 9, code := some k1c2 }
/-- com/example/threadline/threadline/util/SaturatingMultiplyPinLaw -/
def k1 : Class := { plain "com/example/threadline/threadline/util/SaturatingMultiplyPinLaw" (some 0) with
  accessFlags := 49
  interfaces := #[]
  cf := some (fileOf pool1 20 #[] #[{ accessFlags := 2, nameIndex := 5, descriptorIndex := 6, attributes := #[] }, { accessFlags := 10, nameIndex := 23, descriptorIndex := 18, attributes := #[] }, { accessFlags := 9, nameIndex := 27, descriptorIndex := 28, attributes := #[] }] 49 2 #[] #[])
  fields := #[]
  methods := #[k1m0, k1m1, k1m2]
  instanceTypes := #[]
  staticTypes := #[]
  resolved := Array.replicate 31 none
  statics := none }

def pool2 : Array CpInfo := pool [(2, .class_ 4), (1, u "java/lang/Object"), (0, u "<init>"), (0, u "()V"), (2, .long 9223372036854775807), (1, .class_ 12), (0, u "com/example/threadline/threadline/util/Saturating"), (3, u "(JJ)J"), (1, u "multiply")] 2

def k2m0 : Method := { name := "<init>", desc := "()V", sig := { parameters := [], returnType := none }, accessFlags := 2, code := none }
def k2c1 : Code := { maxStack := 6, maxLocals := 4, code := prog_92_method_3_code, exceptionTable := #[], attributes := #[] }
def k2m1 : Method := { name := "multiply", desc := "(JJ)J", sig := { parameters := [.long, .long], returnType := some .long }, accessFlags := 9, code := some k2c1 }
/-- com/example/threadline/threadline/util/Saturating -/
def k2 : Class := { plain "com/example/threadline/threadline/util/Saturating" (some 0) with
  accessFlags := 49
  interfaces := #[]
  cf := some (fileOf pool2 11 #[] #[{ accessFlags := 2, nameIndex := 5, descriptorIndex := 6, attributes := #[] }, { accessFlags := 9, nameIndex := 18, descriptorIndex := 16, attributes := #[] }] 49 2 #[] #[])
  fields := #[]
  methods := #[k2m0, k2m1]
  instanceTypes := #[]
  staticTypes := #[]
  resolved := Array.replicate 21 none
  statics := none }

def pool3 : Array CpInfo := pool [(1, u "java/lang/Cloneable"), (0, .class_ 1), (0, u "java/lang/Object"), (0, .class_ 3)] 3

/-- java/lang/Cloneable -/
def k3 : Class := { plain "java/lang/Cloneable" (some 0) with
  accessFlags := 1537
  interfaces := #[]
  cf := some (fileOf pool3 2 #[] #[] 1537 4 #[] #[])
  fields := #[]
  methods := #[]
  instanceTypes := #[]
  staticTypes := #[]
  resolved := Array.replicate 8 none
  statics := none }

def pool4 : Array CpInfo := pool [(1, u "java/io/Serializable"), (0, .class_ 1), (0, u "java/lang/Object"), (0, .class_ 3)] 3

/-- java/io/Serializable -/
def k4 : Class := { plain "java/io/Serializable" (some 0) with
  accessFlags := 1537
  interfaces := #[]
  cf := some (fileOf pool4 2 #[] #[] 1537 4 #[] #[])
  fields := #[]
  methods := #[]
  instanceTypes := #[]
  staticTypes := #[]
  resolved := Array.replicate 8 none
  statics := none }

/-- the primitive byte -/
def k5 : Class := { plain "byte" none with kind := .primitive 'B', accessFlags := 0x411 }
/-- [B -/
def k6 : Class := { plain "[B" (some 0) with kind := .array 5 .byte, interfaces := #[3, 4], accessFlags := 1041 }

/-- the primitive int -/
def k7 : Class := { plain "int" none with kind := .primitive 'I', accessFlags := 0x411 }
/-- [I -/
def k8 : Class := { plain "[I" (some 0) with kind := .array 7 .int, interfaces := #[3, 4], accessFlags := 1041 }

def heap : Heap := #[]
def classes : Array Class := #[k0, k1, k2, k3, k4, k5, k6, k7, k8]
def interned : List (Array UInt16 × Addr) := []
def slotsUsed : Nat := 0
def theMethod : MethodId := ⟨1, 2⟩
def args0 : Array Value := #[.long 5, .long 300, .int 7, .int 3]
def aboutOver (below : List Frame) : State where
  vm := { classes := classes, interned := interned.toArray }
  heap := heap
  slotsUsed := slotsUsed
  threads := #[{ frames := .invoking theMethod args0 :: below }]
def below0 : List Frame := [.native { method := ⟨0, 0⟩, args := #[] }]
def about1 : State := aboutOver below0
def p0 : Program := .bare "" "" ""
def e0 : Env := launch0.env 0 0 0
theorem w_frames : about1.frames = Frame.invoking theMethod args0 :: below0 := rfl
set_option maxRecDepth 65536 in
theorem w_args : argsFit about1.vm theMethod args0 = true := by decide +kernel
set_option maxRecDepth 65536 in
theorem w_heap : heapFits about1 = true := by decide +kernel
set_option maxRecDepth 65536 in
theorem w_runnable : about1.curStatus? = some .runnable := by decide +kernel
set_option maxRecDepth 65536 in
theorem w_alone : about1.alone = true := by decide +kernel
set_option maxRecDepth 65536 in
theorem w_named : about1.methodNamed? x = some theMethod := by decide +kernel
set_option maxRecDepth 65536 in
theorem w_hears : about1.hears theMethod below0 = true := by decide +kernel
set_option maxRecDepth 65536 in
theorem w_ripe : about1.ripe theMethod args0 below0 = true := by decide +kernel
theorem w_running : about1.status = .running := rfl
set_option maxRecDepth 65536 in
theorem w_room : about1.hasRoom e0.platform room_1 = true :=
  launch0.hasRoom_least _ room_1 (by decide +kernel) (by decide +kernel) (by decide +kernel) (by decide +kernel) (by decide +kernel) (by decide +kernel)
theorem allAtoms_all (ts : List Jvm.Cond) (a : Array Jvm.Value) (st : Jvm.State) : (allAtoms ts).before a st = ts.all (fun c => c.before a st) := by
  induction ts with
  | nil => rfl
  | cons c t ih =>
    show (Jvm.Cond.and c (allAtoms t)).before a st = _
    rw [Jvm.Cond.before_and, ih, List.all_cons]
def words1 : List Jvm.Cond := Jvm.Cond.code x code maxLocals ret :: tables_1
/-- a 'code' word, met by the world's own term for the bytes: nothing is compared byte by byte -/
theorem code_word {y : MethodName} {bytes : ByteArray} {mx : Nat} {rt : Option FieldType} {a : Array Value} {s : State} {m : MethodId} {meth : Method} {c : Code} (h1 : s.methodNamed? y = some m) (h2 : s.vm.method? m = some meth) (h3 : meth.code = some c) (h4 : c.code = bytes)
    (h5 : (c.maxLocals == mx && c.exceptionTable.isEmpty && decide (c.maxStack ≤ mostOperands) && decide (meth.sig.returnType = rt) && !meth.locks && decide (parseMethodDescriptor y.desc = some meth.sig)) = true) : (Jvm.Cond.code y bytes mx rt).before a s = true := by
  simp only [Bool.and_eq_true, beq_iff_eq, Bool.not_eq_true', decide_eq_true_eq] at h5
  obtain ⟨⟨⟨⟨⟨g1, g2⟩, g3⟩, g4⟩, g5⟩, g6⟩ := h5
  simp [Cond.before, Cond.holds, Cond.value, h1, h2, h3, h4, g1, g2, g3, g4, g5, g6]
def isCode : Jvm.Cond → Bool
  | .code _ _ _ _ => true
  | _ => false
theorem all_split {L : List Jvm.Cond} {P : Jvm.Cond → Bool} (h1 : L.all (fun c => isCode c || P c) = true) (h2 : ∀ c ∈ L.filter isCode, P c = true) : L.all P = true := by
  refine List.all_eq_true.mpr fun c hc => ?_
  have h := List.all_eq_true.mp h1 c hc
  rcases Bool.eq_false_or_eq_true (isCode c) with hi | hi
  · exact h2 c (List.mem_filter.mpr ⟨hc, hi⟩)
  · simpa [hi] using h
set_option maxRecDepth 65536 in
theorem w_c0 : (Jvm.Cond.code x code maxLocals ret).before args0 about1 = true := code_word (m := ⟨1, 2⟩) (meth := k1m2) (c := k1c2) (by decide +kernel) rfl rfl rfl (by decide +kernel)
set_option maxRecDepth 65536 in
theorem w_c1 : (Jvm.Cond.code ({ cls := "com/example/threadline/threadline/util/Saturating", name := "multiply", desc := "(JJ)J" } : Jvm.MethodName) prog_92_method_3_code (4 : Nat) (Option.some Jvm.ClassFile.FieldType.long)).before args0 about1 = true := code_word (m := ⟨2, 1⟩) (meth := k2m1) (c := k2c1) (by decide +kernel) rfl rfl rfl (by decide +kernel)
set_option maxRecDepth 65536 in
theorem w_c2 : (Jvm.Cond.code ({ cls := "com/example/threadline/threadline/util/SaturatingMultiplyPinLaw", name := "reference", desc := "(JJ)J" } : Jvm.MethodName) method_2_code (20 : Nat) (Option.some Jvm.ClassFile.FieldType.long)).before args0 about1 = true := code_word (m := ⟨1, 1⟩) (meth := k1m1) (c := k1c1) (by decide +kernel) rfl rfl rfl (by decide +kernel)
def codes1 : List Jvm.Cond := [Jvm.Cond.code x code maxLocals ret, Jvm.Cond.code ({ cls := "com/example/threadline/threadline/util/Saturating", name := "multiply", desc := "(JJ)J" } : Jvm.MethodName) prog_92_method_3_code (4 : Nat) (Option.some Jvm.ClassFile.FieldType.long), Jvm.Cond.code ({ cls := "com/example/threadline/threadline/util/SaturatingMultiplyPinLaw", name := "reference", desc := "(JJ)J" } : Jvm.MethodName) method_2_code (20 : Nat) (Option.some Jvm.ClassFile.FieldType.long)]
set_option maxRecDepth 65536 in
theorem codes_eq : words1.filter isCode = codes1 := rfl
theorem w_codes : ∀ c ∈ words1.filter isCode, c.before args0 about1 = true := by
  rw [codes_eq]
  intro c hc
  simp only [codes1, List.mem_cons, List.not_mem_nil, or_false] at hc
  rcases hc with rfl | rfl | rfl
  · exact w_c0
  · exact w_c1
  · exact w_c2
set_option maxRecDepth 65536 in
theorem w_t1 : words1.all (fun c => isCode c || c.before args0 about1) = true := by decide +kernel
theorem w_tables : (allAtoms (Jvm.Cond.code x code maxLocals ret :: tables_1)).before args0 about1 = true := by
  rw [allAtoms_all]
  show words1.all (fun c => c.before args0 about1) = true
  refine all_split ?_ w_codes
  rw [w_t1]
set_option maxRecDepth 65536 in
theorem w_case : (Jvm.Cond.and given_1 narrow_1).before args0 about1 = true := by decide +kernel
theorem w_applies : (headSpec (Jvm.Cond.code x code maxLocals ret :: tables_1) room_1).applies x e0.platform about1 = true :=
  (Spec.applies_iff w_frames).mpr ⟨w_running, w_runnable, w_alone, w_named, w_hears, w_ripe, w_room, w_tables⟩
theorem atStart : AtStart classFile x code maxLocals ret World_1 tables_1 room_1 Calls_1 rest_1 Pre_1 launch0 p0 e0 about1 theMethod args0 below0 :=
  ⟨lists_1, trivial, launch0.admits_env _ _ _, launch0.least_env, fairChoices_fair.cas, fairChoices_fair.clock, w_frames, w_args, w_heap, w_applies, trivial, trivial, w_case⟩
end start1
theorem witness_1 : WitnessClaimed_1 := ⟨start1.p0, start1.e0, start1.about1, start1.theMethod, start1.args0, start1.below0, start1.atStart⟩
end Jvm.Pilot.@@N@@
