import JvmDerived
import JvmDerived.Pilot.@@N@@Statement
import JvmDerived.Pilot.@@N@@Code
set_option linter.unusedVariables false
set_option linter.unusedSimpArgs false
namespace Jvm.Pilot.@@N@@
open Jvm Jvm.ClassFile Sem Op Lib Jvm.Free Jvm.Stand Jvm.LawKit Jvm.RoadKit Bundle Jvm.Pilot.@@N@@.Jvm.D
/-! from the state S the run comes to an end that QQ allows -/
def Goes (p : Program) (e : Env) (below : List Frame) (QQ : Outcome → State → Prop) (S : State) : Prop :=
  ∃ s₂ o, Steps p.tables e below S s₂ ∧ s₂.status = .running ∧ Ended s₂ below o ∧ QQ o s₂
theorem Goes.on {p : Program} {e : Env} {below : List Frame} {QQ : Outcome → State → Prop} {S S' : State} (h : ∀ t, Steps p.tables e below S' t → Steps p.tables e below S t) (g : Goes p e below QQ S') : Goes p e below QQ S := by
  obtain ⟨s₂, o, h1, h2⟩ := g
  exact ⟨s₂, o, h _ h1, h2⟩
theorem Goes.cast {p : Program} {e : Env} {below : List Frame} {QQ : Outcome → State → Prop} {T : State} {g g' : JFrame} (q : g = g') (k : Goes p e below QQ (T.setTop g')) : Goes p e below QQ (T.setTop g) := q ▸ k
def EndsQ (s : State) (Q : Option Value → Heap → List Loc → Prop) (kc ks : Nat) (o : Outcome) (U' : State) : Prop := ∃ v L, o = .returned v ∧ Q v U'.heap L ∧ FrameEnd s o U' L kc ks
/-- a result alone -/
def QP (x : Value) (h0 : Heap) (n0 : Nat) (v : Option Value) (h : Heap) (L : List Loc) : Prop := v = some x ∧ Fr n0 L ∧ h = h0
theorem own_enter {l : Launch} {y : MethodName} {bytes : ByteArray} {maxL : Nat} {rt : Option FieldType} {ws : List Jvm.Cond} {rm : Room} {as' : Array Value} {Q : Option Value → Heap → List Loc → Prop} {Z : State} {h0 : Heap} {kc ks : Nat} (hp : plainFor y = true)
    (body : ∀ (p : Program) (e : Env) (s : State) (m : MethodId) (below : List Frame) (meth : Method) (c : Code) (s₁ : State) (QQ : Outcome → State → Prop), (∀ o U', EndsQ s Q kc ks o U' → QQ o U') → p.tables.exec = Jvm.exec → c.code = bytes → c.maxLocals = maxL → s.vm.findClass y.cls = some m.cls → meth.name = y.name → meth.sig.returnType = rt → meth.locks = false → Z.Warmed39 s.vm → Stand p l e rm s m as' below meth c s₁ [] 0 0 → s₁.heap = h0 →
      Goes p e below QQ (s₁.setTop (entryFrame m as' maxL))) :
    MetFree l y (head1 (Jvm.Cond.code y bytes maxL rt :: ws) rm) (fun a U => a = as' ∧ Z.Warmed39 U.vm ∧ U.heap = h0) (fun _ _ _ _ _ => True) (fun _ U o U' => ∃ v L, o = .returned v ∧ Q v U'.heap L ∧ FrameEnd U o U' L kc ks) := by
  refine MetFree.of_bodySF hp hisR ?_
  intro p e s m args below meth c s₁ Bd hml0 hP hK
  obtain ⟨rfl, hZ, hh⟩ := hP
  exact body p e s m below meth c s₁ _ (fun o U' h => h) Bd.exec Bd.bytes hml0 (findClass_of_methodNamed Bd.named) (name_of_methodNamed Bd.named Bd.method).1 Bd.returns (BodyLoose.notSynchronized Bd) hZ (Stand.of_body Bd) (by rw [← hh, Bd.state]; rfl)
section Ret
variable {p : Program} {l : Launch} {e : Env} {R : Room} {s : State} {m : MethodId} {args : Array Value} {below : List Frame} {meth : Method} {c : Code} {T : State} {locs : List Loc} {cells slots kc ks : Nat} {QQ : Outcome → State → Prop} {Q : Option Value → Heap → List Loc → Prop}
theorem Goes.fin (X : Stand p l e R s m args below meth c T locs cells slots) (hlk : meth.locks = false) {v : Option Value} (hv : meth.sig.returnType = none → v = none) {g : JFrame}
    (step : ∀ fs : List Frame, (∀ (f : JFrame) (acts : List Action), f.method = m → f.locked = none → f.entered = [] → (doReturn e (T.setTop f) acts v).1 = T.setFrames fs) → Steps p.tables e below (T.setTop g) (T.setFrames fs))
    (hQQ : ∀ o U', EndsQ s Q kc ks o U' → QQ o U') (hq : Q v T.heap locs) (hc : cells ≤ kc) (hs : slots ≤ ks) : Goes p e below QQ (T.setTop g) := by
  obtain ⟨fs, hr, hrun, hended, hW, hsame⟩ := X.leave (v := v) hv hlk
  exact ⟨_, _, step fs hr, hrun, hended, hQQ _ _ ⟨v, locs, rfl, hq, ⟨v, rfl⟩, hW, hsame.mono hc hs⟩⟩
theorem Goes.rI (X : Stand p l e R s m args below meth c T locs cells slots) (hx : p.tables.exec = Jvm.exec) (hret : meth.sig.returnType = some .int) (hlk : meth.locks = false) {pc : Nat} {Ls : Array Slot} {z : Int32} {rest : List Value} (hd : decode c.code pc = .ok (.ireturn, 1))
    (hQQ : ∀ o U', EndsQ s Q kc ks o U' → QQ o U') (hq : Q (some (.int z)) T.heap locs) (hc : cells ≤ kc) (hs : slots ≤ ks) : Goes p e below QQ (T.setTop (mkF m pc Ls (.int z :: rest))) :=
  Goes.fin X hlk (v := some (.int z)) (fun h => by rw [hret] at h; cases h) (fun fs hr => retOut X hx hret rfl (Or.inl ⟨rfl, Or.inl rfl, z, rfl⟩) hd hr) hQQ hq hc hs
theorem Goes.rN (X : Stand p l e R s m args below meth c T locs cells slots) (hx : p.tables.exec = Jvm.exec) {t : FieldType} (hret : meth.sig.returnType = some t) (ht : t = .boolean ∨ t = .byte ∨ t = .char ∨ t = .short) (hlk : meth.locks = false) {pc : Nat} {Ls : Array Slot} {z : Int32} {rest : List Value} (hd : decode c.code pc = .ok (.ireturn, 1))
    (hQQ : ∀ o U', EndsQ s Q kc ks o U' → QQ o U') (hq : Q (some (.int (nar t z))) T.heap locs) (hc : cells ≤ kc) (hs : slots ≤ ks) : Goes p e below QQ (T.setTop (mkF m pc Ls (.int z :: rest))) :=
  Goes.fin X hlk (v := some (.int (nar t z))) (fun h => by rw [hret] at h; cases h) (fun fs hr => retN X hx hret ht hd hr) hQQ hq hc hs
theorem Goes.rJ (X : Stand p l e R s m args below meth c T locs cells slots) (hx : p.tables.exec = Jvm.exec) (hret : meth.sig.returnType = some .long) (hlk : meth.locks = false) {pc : Nat} {Ls : Array Slot} {z : Int64} {rest : List Value} (hd : decode c.code pc = .ok (.lreturn, 1))
    (hQQ : ∀ o U', EndsQ s Q kc ks o U' → QQ o U') (hq : Q (some (.long z)) T.heap locs) (hc : cells ≤ kc) (hs : slots ≤ ks) : Goes p e below QQ (T.setTop (mkF m pc Ls (.long z :: rest))) :=
  Goes.fin X hlk (v := some (.long z)) (fun h => by rw [hret] at h; cases h) (fun fs hr => retOut X hx hret rfl (Or.inr (Or.inl ⟨rfl, rfl, z, rfl⟩)) hd hr) hQQ hq hc hs
theorem Goes.rA (X : Stand p l e R s m args below meth c T locs cells slots) (hx : p.tables.exec = Jvm.exec) {t : FieldType} (hret : meth.sig.returnType = some t) (ht : t.isReference = true) {w : Value} (hw : w.isRef = true) (hlk : meth.locks = false) {pc : Nat} {Ls : Array Slot} {rest : List Value} (hd : decode c.code pc = .ok (.areturn, 1))
    (hQQ : ∀ o U', EndsQ s Q kc ks o U' → QQ o U') (hq : Q (some w) T.heap locs) (hc : cells ≤ kc) (hs : slots ≤ ks) : Goes p e below QQ (T.setTop (mkF m pc Ls (w :: rest))) :=
  Goes.fin X hlk (v := some w) (fun h => by rw [hret] at h; cases h) (fun fs hr => retOut X hx hret (by cases w <;> first | (cases hw; done) | (cases t <;> first | (cases ht; done) | rfl)) (Or.inr (Or.inr (Or.inr (Or.inr ⟨rfl, ht, hw⟩)))) hd hr) hQQ hq hc hs
theorem Goes.rV (X : Stand p l e R s m args below meth c T locs cells slots) (hx : p.tables.exec = Jvm.exec) (hret : meth.sig.returnType = none) (hlk : meth.locks = false) {pc : Nat} {Ls : Array Slot} (hd : decode c.code pc = .ok (.return_, 1))
    (hQQ : ∀ o U', EndsQ s Q kc ks o U' → QQ o U') (hq : Q none T.heap locs) (hc : cells ≤ kc) (hs : slots ≤ ks) : Goes p e below QQ (T.setTop (mkF m pc Ls [])) :=
  Goes.fin X hlk (v := none) (fun _ => rfl) (fun fs hr => X.returnOut hx hret hd hr) hQQ hq hc hs
end Ret
/-- what the law leaves: it returned 1, and nothing old was written -/
def QL (n0 : Nat) (v : Option Value) (h : Heap) (L : List Loc) : Prop := v = some (.int 1) ∧ Fr n0 L
def satAdd (a b : Int64) : Int64 := if (9223372036854775807 - a) < b then 9223372036854775807 else a + b
theorem d1_0 : decode prog_92_method_2_code 0 = .ok (.lload_n 2, 1) := by decide +kernel
theorem d1_1 : decode prog_92_method_2_code 1 = .ok (.ldc2_w 9, 3) := by decide +kernel
theorem d1_4 : decode prog_92_method_2_code 4 = .ok (.lload_n 0, 1) := by decide +kernel
theorem d1_5 : decode prog_92_method_2_code 5 = .ok (.lsub, 1) := by decide +kernel
theorem d1_6 : decode prog_92_method_2_code 6 = .ok (.lcmp, 1) := by decide +kernel
theorem d1_7 : decode prog_92_method_2_code 7 = .ok (.ifCond .le 9, 3) := by decide +kernel
theorem d1_10 : decode prog_92_method_2_code 10 = .ok (.ldc2_w 9, 3) := by decide +kernel
theorem d1_13 : decode prog_92_method_2_code 13 = .ok (.goto 6, 3) := by decide +kernel
theorem d1_16 : decode prog_92_method_2_code 16 = .ok (.lload_n 0, 1) := by decide +kernel
theorem d1_17 : decode prog_92_method_2_code 17 = .ok (.lload_n 2, 1) := by decide +kernel
theorem d1_18 : decode prog_92_method_2_code 18 = .ok (.ladd, 1) := by decide +kernel
theorem d1_19 : decode prog_92_method_2_code 19 = .ok (.lreturn, 1) := by decide +kernel
theorem pn_1 : plainFor (⟨"com/example/threadline/threadline/util/Saturating", "add", "(JJ)J"⟩ : MethodName) = true := plainFor_of_name (show plainName "com/example/threadline/threadline/util/Saturating" = true by first | (simp [plainName, overriddenIn]; done) | decide +kernel)
theorem ef_rm1 (m : MethodId) (x0 : Int64) (x1 : Int64) : entryFrame m #[(.long x0), (.long x1)] 4 = mkF m 0 #[.val (.long x0), .second, .val (.long x1), .second] [] := by first | (simp [entryFrame, mkF, argsToLocals, Value.category]; done) | rfl
set_option maxRecDepth 65536 in
set_option maxHeartbeats 40000000 in
theorem rm1 (l : Launch) (Z : State) (a0 : Array Value) (hw : ∀ d ∈ tables_1, d.before a0 Z = true) (ws : List Jvm.Cond) (p1 p2 : Int64) (h0 : Heap) (n0 : Nat) (Z0 : n0 ≤ h0.size)  :
    MetFree l (⟨"com/example/threadline/threadline/util/Saturating", "add", "(JJ)J"⟩ : MethodName) (head1 (Jvm.Cond.code (⟨"com/example/threadline/threadline/util/Saturating", "add", "(JJ)J"⟩ : MethodName) prog_92_method_2_code 4 (some .long) :: ws) ({ frames := 0, cells := 0, slots := 0, locals := 0 } : Room)) (fun a U => a = #[(.long p1), (.long p2)] ∧ Z.Warmed39 U.vm ∧ U.heap = h0) (fun _ _ _ _ _ => True) (fun _ U o U' => ∃ v L, o = .returned v ∧ QP (.long (satAdd p1 p2)) h0 n0 v U'.heap L ∧ FrameEnd U o U' L ({ frames := 0, cells := 0, slots := 0, locals := 0 } : Room).cells ({ frames := 0, cells := 0, slots := 0, locals := 0 } : Room).slots) := by
  refine own_enter pn_1 ?_
  intro p e s m below meth c s₁ QQ hQQ hx hby hml hown hnm hret hlk hZ X0 e0
  have hown : s.vm.findClass "com/example/threadline/threadline/util/Saturating" = some m.cls := hown
  have hml : c.maxLocals = 4 := hml
  have hret : meth.sig.returnType = some .long := hret
  have N0 := Fr.nil n0
  have K0 := Keep.refl h0 []
  refine Goes.cast (ef_rm1 m p1 p2) ?_
  show Goes p e below QQ (s₁.setTop (mkF m 0 #[.val (.long p1), .second, .val (.long p2), .second] []))
  refine Goes.on (fun t k => XS.lloadN X0.here hx rfl (hb hby d1_0) rfl k) ?_
  show Goes p e below QQ (s₁.setTop (mkF m 1 #[.val (.long p1), .second, .val (.long p2), .second] [(.long p2)]))
  refine Goes.on (fun t k => X0.ldc2Long hx hown (mvT hZ (hw _ (List.mem_of_getElem? (i := 5) rfl))) (g := (mkF m 1 #[.val (.long p1), .second, .val (.long p2), .second] [(.long p2)])) rfl (hb hby d1_1) t k) ?_
  show Goes p e below QQ (s₁.setTop (mkF m 4 #[.val (.long p1), .second, .val (.long p2), .second] [(.long (9223372036854775807 : Int64)), (.long p2)]))
  refine Goes.on (fun t k => XS.lloadN X0.here hx rfl (hb hby d1_4) rfl k) ?_
  show Goes p e below QQ (s₁.setTop (mkF m 5 #[.val (.long p1), .second, .val (.long p2), .second] [(.long p1), (.long (9223372036854775807 : Int64)), (.long p2)]))
  refine Goes.on (fun t k => XS.lsub X0.here hx rfl (hb hby d1_5) rfl k) ?_
  show Goes p e below QQ (s₁.setTop (mkF m 6 #[.val (.long p1), .second, .val (.long p2), .second] [(.long ((9223372036854775807 : Int64) - p1)), (.long p2)]))
  refine Goes.on (fun t k => XS.lcmp X0.here hx rfl (hb hby d1_6) rfl k) ?_
  show Goes p e below QQ (s₁.setTop (mkF m 7 #[.val (.long p1), .second, .val (.long p2), .second] [(.int (lcmpW p2 ((9223372036854775807 : Int64) - p1)))]))
  by_cases hc : ((9223372036854775807 : Int64) - p1) < p2
  · refine Goes.on (fun t k => XS.ifNo X0.here hx rfl (hb hby d1_7) rfl ((if0 _ _).trans (tlt ((lw_gt p2 ((9223372036854775807 : Int64) - p1)).mpr hc)).2.2.2) k) ?_
    show Goes p e below QQ (s₁.setTop (mkF m 10 #[.val (.long p1), .second, .val (.long p2), .second] []))
    refine Goes.on (fun t k => X0.ldc2Long hx hown (mvT hZ (hw _ (List.mem_of_getElem? (i := 5) rfl))) (g := (mkF m 10 #[.val (.long p1), .second, .val (.long p2), .second] [])) rfl (hb hby d1_10) t k) ?_
    show Goes p e below QQ (s₁.setTop (mkF m 13 #[.val (.long p1), .second, .val (.long p2), .second] [(.long (9223372036854775807 : Int64))]))
    refine Goes.on (fun t k => XS.goto X0.here hx rfl (pc0 := 13) (pc' := 19) rfl (hb hby d1_13) (by decide) (by decide) k) ?_
    show Goes p e below QQ (s₁.setTop (mkF m 19 #[.val (.long p1), .second, .val (.long p2), .second] [(.long (9223372036854775807 : Int64))]))
    exact Goes.rJ X0 hx hret hlk (hb hby d1_19) hQQ ⟨by simp [satAdd, hc], N0, e0⟩ (by decide) (by decide)
  · refine Goes.on (fun t k => XS.ifYes X0.here hx rfl (pc0 := 7) (pc' := 16) rfl (hb hby d1_7) rfl ((if0 _ _).trans (flt (mt (lw_gt p2 ((9223372036854775807 : Int64) - p1)).mp hc)).2.2.2) (by decide) (by decide) k) ?_
    show Goes p e below QQ (s₁.setTop (mkF m 16 #[.val (.long p1), .second, .val (.long p2), .second] []))
    refine Goes.on (fun t k => XS.lloadN X0.here hx rfl (hb hby d1_16) rfl k) ?_
    show Goes p e below QQ (s₁.setTop (mkF m 17 #[.val (.long p1), .second, .val (.long p2), .second] [(.long p1)]))
    refine Goes.on (fun t k => XS.lloadN X0.here hx rfl (hb hby d1_17) rfl k) ?_
    show Goes p e below QQ (s₁.setTop (mkF m 18 #[.val (.long p1), .second, .val (.long p2), .second] [(.long p2), (.long p1)]))
    refine Goes.on (fun t k => XS.ladd X0.here hx rfl (hb hby d1_18) rfl k) ?_
    show Goes p e below QQ (s₁.setTop (mkF m 19 #[.val (.long p1), .second, .val (.long p2), .second] [(.long (p1 + p2))]))
    exact Goes.rJ X0 hx hret hlk (hb hby d1_19) hQQ ⟨by simp [satAdd, hc], N0, e0⟩ (by decide) (by decide)
theorem own_sat (a b : Int64) (ha : 0 ≤ a.toInt) (hb : 0 ≤ b.toInt) : (a + b < 0 → satAdd a b = 9223372036854775807) ∧ (¬ a + b < 0 → satAdd a b = a + b) := by
  have q1 := c_lsub 9223372036854775807 a
  have q2 := c_ladd a b
  have r1 := rng64 a
  have r2 := rng64 b
  have r3 := rng64 (a + b)
  have r4 := rng64 (9223372036854775807 - a)
  have e1 : (9223372036854775807 : Int64).toInt = 9223372036854775807 := by decide
  have e0 : (0 : Int64).toInt = 0 := by decide
  rw [e1] at q1
  unfold satAdd
  by_cases hc : (9223372036854775807 - a) < b
  · rw [if_pos hc]
    rw [Int64.lt_iff_toInt_lt] at hc
    rw [Int64.lt_iff_toInt_lt, e0]
    exact ⟨fun _ => rfl, fun h => by omega⟩
  · rw [if_neg hc]
    rw [Int64.lt_iff_toInt_lt] at hc
    rw [Int64.lt_iff_toInt_lt, e0]
    exact ⟨fun h => by omega, fun _ => rfl⟩
theorem own_pos (a : Int64) : 0 ≤ (a &&& 9223372036854775807).toInt := by
  rw [c_maskL a 9223372036854775807 63 (by decide) (by decide)]
  omega
theorem pn_0 : plainFor x = true := plainFor_of_name (show plainName "com/example/threadline/threadline/util/SaturatingAddPinLaw" = true by first | (simp [plainName, overriddenIn]; done) | decide +kernel)
theorem ef_rm0 (m : MethodId) (x0 : Int64) (x1 : Int64) (x2 : Int32) : entryFrame m #[(.long x0), (.long x1), (.int x2)] maxLocals = mkF m 0 #[.val (.long x0), .second, .val (.long x1), .second, iv x2, .unset, .unset, .unset, .unset, .unset, .unset, .unset, .unset] [] := by first | (simp [entryFrame, mkF, argsToLocals, Value.category, maxLocals]; done) | rfl
theorem pd_0 : parseMethodDescriptor "(JJ)J" = some ⟨[.long, .long], some .long⟩ := by decide +kernel
set_option maxRecDepth 65536 in
set_option maxHeartbeats 40000000 in
theorem rm0 (l : Launch) (Z : State) (a0 : Array Value) (hw : ∀ d ∈ tables_1, d.before a0 Z = true) (ws : List Jvm.Cond) (p1 p2 : Int64) (p3 : Int32) (h0 : Heap) (n0 : Nat) (Z0 : n0 ≤ h0.size)  :
    MetFree l x (head1 (Jvm.Cond.code x code maxLocals ret :: ws) room_1) (fun a U => a = #[(.long p1), (.long p2), (.int p3)] ∧ Z.Warmed39 U.vm ∧ U.heap = h0) (fun _ _ _ _ _ => True) (fun _ U o U' => ∃ v L, o = .returned v ∧ QL n0 v U'.heap L ∧ FrameEnd U o U' L 0 0) := by
  refine own_enter pn_0 ?_
  intro p e s m below meth c s₁ QQ hQQ hx hby hml hown hnm hret hlk hZ X0 e0
  have hown : s.vm.findClass "com/example/threadline/threadline/util/SaturatingAddPinLaw" = some m.cls := hown
  have hml : c.maxLocals = 13 := hml
  have hret : meth.sig.returnType = some .boolean := hret
  have N0 := Fr.nil n0
  have K0 := Keep.refl h0 []
  refine Goes.cast (ef_rm0 m p1 p2 p3) ?_
  show Goes p e below QQ (s₁.setTop (mkF m 0 #[.val (.long p1), .second, .val (.long p2), .second, iv p3, .unset, .unset, .unset, .unset, .unset, .unset, .unset, .unset] []))
  refine Goes.on (fun t k => XS.lloadN X0.here hx rfl (hb hby at_0) rfl k) ?_
  show Goes p e below QQ (s₁.setTop (mkF m 1 #[.val (.long p1), .second, .val (.long p2), .second, iv p3, .unset, .unset, .unset, .unset, .unset, .unset, .unset, .unset] [(.long p1)]))
  refine Goes.on (fun t k => X0.ldc2Long hx hown (mvT hZ (hw _ (List.mem_of_getElem? (i := 0) rfl))) (g := (mkF m 1 #[.val (.long p1), .second, .val (.long p2), .second, iv p3, .unset, .unset, .unset, .unset, .unset, .unset, .unset, .unset] [(.long p1)])) rfl (hb hby at_1) t k) ?_
  show Goes p e below QQ (s₁.setTop (mkF m 4 #[.val (.long p1), .second, .val (.long p2), .second, iv p3, .unset, .unset, .unset, .unset, .unset, .unset, .unset, .unset] [(.long (9223372036854775807 : Int64)), (.long p1)]))
  refine Goes.on (fun t k => XS.land X0.here hx rfl (hb hby at_4) rfl k) ?_
  show Goes p e below QQ (s₁.setTop (mkF m 5 #[.val (.long p1), .second, .val (.long p2), .second, iv p3, .unset, .unset, .unset, .unset, .unset, .unset, .unset, .unset] [(.long (p1 &&& (9223372036854775807 : Int64)))]))
  refine Goes.on (fun t k => XS.lstore X0.here hx rfl (hb hby at_5) rfl (l' := #[.val (.long p1), .second, .val (.long p2), .second, iv p3, .val (.long (p1 &&& (9223372036854775807 : Int64))), .second, .unset, .unset, .unset, .unset, .unset, .unset]) rfl k) ?_
  show Goes p e below QQ (s₁.setTop (mkF m 7 #[.val (.long p1), .second, .val (.long p2), .second, iv p3, .val (.long (p1 &&& (9223372036854775807 : Int64))), .second, .unset, .unset, .unset, .unset, .unset, .unset] []))
  refine Goes.on (fun t k => XS.iload X0.here hx rfl (hb hby at_7) rfl k) ?_
  show Goes p e below QQ (s₁.setTop (mkF m 9 #[.val (.long p1), .second, .val (.long p2), .second, iv p3, .val (.long (p1 &&& (9223372036854775807 : Int64))), .second, .unset, .unset, .unset, .unset, .unset, .unset] [(.int p3)]))
  refine Goes.on (fun t k => XS.iconst X0.here hx rfl (hb hby at_9) k) ?_
  show Goes p e below QQ (s₁.setTop (mkF m 10 #[.val (.long p1), .second, .val (.long p2), .second, iv p3, .val (.long (p1 &&& (9223372036854775807 : Int64))), .second, .unset, .unset, .unset, .unset, .unset, .unset] [(.int 4), (.int p3)]))
  refine Goes.on (fun t k => XS.iand X0.here hx rfl (hb hby at_10) rfl k) ?_
  show Goes p e below QQ (s₁.setTop (mkF m 11 #[.val (.long p1), .second, .val (.long p2), .second, iv p3, .val (.long (p1 &&& (9223372036854775807 : Int64))), .second, .unset, .unset, .unset, .unset, .unset, .unset] [(.int (p3 &&& (4 : Int32)))]))
  have hA := own_pos p1
  by_cases h4 : (p3 &&& (4 : Int32)) = (0 : Int32)
  · refine Goes.on (fun t k => XS.ifYes X0.here hx rfl (pc0 := 11) (pc' := 37) rfl (hb hby at_11) rfl ((if0 _ _).trans (teq h4).1) (by decide) (by decide) k) ?_
    show Goes p e below QQ (s₁.setTop (mkF m 37 #[.val (.long p1), .second, .val (.long p2), .second, iv p3, .val (.long (p1 &&& (9223372036854775807 : Int64))), .second, .unset, .unset, .unset, .unset, .unset, .unset] []))
    refine Goes.on (fun t k => XS.lloadN X0.here hx rfl (hb hby at_37) rfl k) ?_
    show Goes p e below QQ (s₁.setTop (mkF m 38 #[.val (.long p1), .second, .val (.long p2), .second, iv p3, .val (.long (p1 &&& (9223372036854775807 : Int64))), .second, .unset, .unset, .unset, .unset, .unset, .unset] [(.long p2)]))
    refine Goes.on (fun t k => X0.ldc2Long hx hown (mvT hZ (hw _ (List.mem_of_getElem? (i := 0) rfl))) (g := (mkF m 38 #[.val (.long p1), .second, .val (.long p2), .second, iv p3, .val (.long (p1 &&& (9223372036854775807 : Int64))), .second, .unset, .unset, .unset, .unset, .unset, .unset] [(.long p2)])) rfl (hb hby at_38) t k) ?_
    show Goes p e below QQ (s₁.setTop (mkF m 41 #[.val (.long p1), .second, .val (.long p2), .second, iv p3, .val (.long (p1 &&& (9223372036854775807 : Int64))), .second, .unset, .unset, .unset, .unset, .unset, .unset] [(.long (9223372036854775807 : Int64)), (.long p2)]))
    refine Goes.on (fun t k => XS.land X0.here hx rfl (hb hby at_41) rfl k) ?_
    show Goes p e below QQ (s₁.setTop (mkF m 42 #[.val (.long p1), .second, .val (.long p2), .second, iv p3, .val (.long (p1 &&& (9223372036854775807 : Int64))), .second, .unset, .unset, .unset, .unset, .unset, .unset] [(.long (p2 &&& (9223372036854775807 : Int64)))]))
    refine Goes.on (fun t k => XS.lstore X0.here hx rfl (hb hby at_42) rfl (l' := #[.val (.long p1), .second, .val (.long p2), .second, iv p3, .val (.long (p1 &&& (9223372036854775807 : Int64))), .second, .val (.long (p2 &&& (9223372036854775807 : Int64))), .second, .unset, .unset, .unset, .unset]) rfl k) ?_
    show Goes p e below QQ (s₁.setTop (mkF m 44 #[.val (.long p1), .second, .val (.long p2), .second, iv p3, .val (.long (p1 &&& (9223372036854775807 : Int64))), .second, .val (.long (p2 &&& (9223372036854775807 : Int64))), .second, .unset, .unset, .unset, .unset] []))
    have hB : 0 ≤ ((p2 &&& (9223372036854775807 : Int64))).toInt := own_pos _
    have hS := own_sat (p1 &&& (9223372036854775807 : Int64)) (p2 &&& (9223372036854775807 : Int64)) hA hB
    generalize hA' : (p1 &&& (9223372036854775807 : Int64)) = va at *
    generalize hB' : (p2 &&& (9223372036854775807 : Int64)) = vb at *
    show Goes p e below QQ (s₁.setTop (mkF m 44 #[.val (.long p1), .second, .val (.long p2), .second, iv p3, .val (.long va), .second, .val (.long vb), .second, .unset, .unset, .unset, .unset] []))
    refine Goes.on (fun t k => XS.lload X0.here hx rfl (hb hby at_44) rfl k) ?_
    show Goes p e below QQ (s₁.setTop (mkF m 46 #[.val (.long p1), .second, .val (.long p2), .second, iv p3, .val (.long va), .second, .val (.long vb), .second, .unset, .unset, .unset, .unset] [(.long va)]))
    refine Goes.on (fun t k => XS.lload X0.here hx rfl (hb hby at_46) rfl k) ?_
    show Goes p e below QQ (s₁.setTop (mkF m 48 #[.val (.long p1), .second, .val (.long p2), .second, iv p3, .val (.long va), .second, .val (.long vb), .second, .unset, .unset, .unset, .unset] [(.long vb), (.long va)]))
    refine Goes.on (fun t k => XS.ladd X0.here hx rfl (hb hby at_48) rfl k) ?_
    show Goes p e below QQ (s₁.setTop (mkF m 49 #[.val (.long p1), .second, .val (.long p2), .second, iv p3, .val (.long va), .second, .val (.long vb), .second, .unset, .unset, .unset, .unset] [(.long (va + vb))]))
    refine Goes.on (fun t k => XS.lstore X0.here hx rfl (hb hby at_49) rfl (l' := #[.val (.long p1), .second, .val (.long p2), .second, iv p3, .val (.long va), .second, .val (.long vb), .second, .val (.long (va + vb)), .second, .unset, .unset]) rfl k) ?_
    show Goes p e below QQ (s₁.setTop (mkF m 51 #[.val (.long p1), .second, .val (.long p2), .second, iv p3, .val (.long va), .second, .val (.long vb), .second, .val (.long (va + vb)), .second, .unset, .unset] []))
    refine Goes.on (fun t k => XS.lload X0.here hx rfl (hb hby at_51) rfl k) ?_
    show Goes p e below QQ (s₁.setTop (mkF m 53 #[.val (.long p1), .second, .val (.long p2), .second, iv p3, .val (.long va), .second, .val (.long vb), .second, .val (.long (va + vb)), .second, .unset, .unset] [(.long (va + vb))]))
    refine Goes.on (fun t k => XS.lconst X0.here hx rfl (hb hby at_53) k) ?_
    show Goes p e below QQ (s₁.setTop (mkF m 54 #[.val (.long p1), .second, .val (.long p2), .second, iv p3, .val (.long va), .second, .val (.long vb), .second, .val (.long (va + vb)), .second, .unset, .unset] [(.long (0 : Int64)), (.long (va + vb))]))
    refine Goes.on (fun t k => XS.lcmp X0.here hx rfl (hb hby at_54) rfl k) ?_
    show Goes p e below QQ (s₁.setTop (mkF m 55 #[.val (.long p1), .second, .val (.long p2), .second, iv p3, .val (.long va), .second, .val (.long vb), .second, .val (.long (va + vb)), .second, .unset, .unset] [(.int (lcmpW (va + vb) (0 : Int64)))]))
    by_cases hs : (va + vb) < (0 : Int64)
    · refine Goes.on (fun t k => XS.ifNo X0.here hx rfl (hb hby at_55) rfl ((if0 _ _).trans (tlt ((lw_lt (va + vb) (0 : Int64)).mpr hs)).2.1) k) ?_
      show Goes p e below QQ (s₁.setTop (mkF m 58 #[.val (.long p1), .second, .val (.long p2), .second, iv p3, .val (.long va), .second, .val (.long vb), .second, .val (.long (va + vb)), .second, .unset, .unset] []))
      refine Goes.on (fun t k => X0.ldc2Long hx hown (mvT hZ (hw _ (List.mem_of_getElem? (i := 0) rfl))) (g := (mkF m 58 #[.val (.long p1), .second, .val (.long p2), .second, iv p3, .val (.long va), .second, .val (.long vb), .second, .val (.long (va + vb)), .second, .unset, .unset] [])) rfl (hb hby at_58) t k) ?_
      show Goes p e below QQ (s₁.setTop (mkF m 61 #[.val (.long p1), .second, .val (.long p2), .second, iv p3, .val (.long va), .second, .val (.long vb), .second, .val (.long (va + vb)), .second, .unset, .unset] [(.long (9223372036854775807 : Int64))]))
      refine Goes.on (fun t k => XS.goto X0.here hx rfl (pc0 := 61) (pc' := 66) rfl (hb hby at_61) (by decide) (by decide) k) ?_
      show Goes p e below QQ (s₁.setTop (mkF m 66 #[.val (.long p1), .second, .val (.long p2), .second, iv p3, .val (.long va), .second, .val (.long vb), .second, .val (.long (va + vb)), .second, .unset, .unset] [(.long (9223372036854775807 : Int64))]))
      refine Goes.on (fun t k => XS.lstore X0.here hx rfl (hb hby at_66) rfl (l' := #[.val (.long p1), .second, .val (.long p2), .second, iv p3, .val (.long va), .second, .val (.long vb), .second, .val (.long (va + vb)), .second, .val (.long (9223372036854775807 : Int64)), .second]) rfl k) ?_
      show Goes p e below QQ (s₁.setTop (mkF m 68 #[.val (.long p1), .second, .val (.long p2), .second, iv p3, .val (.long va), .second, .val (.long vb), .second, .val (.long (va + vb)), .second, .val (.long (9223372036854775807 : Int64)), .second] []))
      refine Goes.on (fun t k => XS.lload X0.here hx rfl (hb hby at_68) rfl k) ?_
      show Goes p e below QQ (s₁.setTop (mkF m 70 #[.val (.long p1), .second, .val (.long p2), .second, iv p3, .val (.long va), .second, .val (.long vb), .second, .val (.long (va + vb)), .second, .val (.long (9223372036854775807 : Int64)), .second] [(.long va)]))
      refine Goes.on (fun t k => XS.lload X0.here hx rfl (hb hby at_70) rfl k) ?_
      show Goes p e below QQ (s₁.setTop (mkF m 72 #[.val (.long p1), .second, .val (.long p2), .second, iv p3, .val (.long va), .second, .val (.long vb), .second, .val (.long (va + vb)), .second, .val (.long (9223372036854775807 : Int64)), .second] [(.long vb), (.long va)]))
      obtain ⟨_, _, ⟨T1, L1, k1, n1⟩, -, X1, ⟨Lc1, hQ1, l1, y1, z1⟩, st1⟩ := Jvm.LawKit.callS X0 hx (y := (⟨"com/example/threadline/threadline/util/Saturating", "add", "(JJ)J"⟩ : MethodName)) hown (mvT hZ (hw _ (List.mem_of_getElem? (i := 1) rfl))) (mvT hZ (hw _ (List.mem_of_getElem? (i := 2) rfl))) (mvT hZ (hw _ (List.mem_of_getElem? (i := 3) rfl))) (mvT hZ (hw _ (List.mem_of_getElem? (i := 4) rfl))) (by decide) (backOf (W := 0) (rm1 l Z a0 hw [] va vb h0 n0 (Nat.le_trans Z0 K0.1) ) hZ (hw _ (List.mem_of_getElem? (i := 4) rfl)) (hw _ (List.mem_of_getElem? (i := 3) rfl)) (by decide) (by decide)) (g := (mkF m 72 #[.val (.long p1), .second, .val (.long p2), .second, iv p3, .val (.long va), .second, .val (.long vb), .second, .val (.long (va + vb)), .second, .val (.long (9223372036854775807 : Int64)), .second] [(.long vb), (.long va)])) rfl (by rw [hml]; rfl) (argsL := [(.long va), (.long vb)]) (rest := []) (lenOf pd_0 rfl) rfl (by show 2 * 0 + _ ≤ _; exact Nat.le_of_eq rfl) (hb hby at_72) (fun _ _ => ⟨rfl, e0, (by decide : 0 + 0 ≤ _), (by decide : 0 + 0 ≤ _)⟩)
      dsimp only [Pt.U, Pt.locs, Pt.cells, Pt.slots] at X1 l1 y1 z1 st1 hQ1
      subst l1 y1 z1
      obtain ⟨rfl, M1, e1⟩ := hQ1
      have N1 := Fr.app N0 M1
      refine Goes.on (fun t k => st1 _ k) ?_
      show Goes p e below QQ (T1.setTop (mkF m 75 #[.val (.long p1), .second, .val (.long p2), .second, iv p3, .val (.long va), .second, .val (.long vb), .second, .val (.long (va + vb)), .second, .val (.long (9223372036854775807 : Int64)), .second] [(.long (satAdd va vb))]))
      refine Goes.on (fun t k => XS.lload X1.here hx rfl (hb hby at_75) rfl k) ?_
      show Goes p e below QQ (T1.setTop (mkF m 77 #[.val (.long p1), .second, .val (.long p2), .second, iv p3, .val (.long va), .second, .val (.long vb), .second, .val (.long (va + vb)), .second, .val (.long (9223372036854775807 : Int64)), .second] [(.long (9223372036854775807 : Int64)), (.long (satAdd va vb))]))
      refine Goes.on (fun t k => XS.lcmp X1.here hx rfl (hb hby at_77) rfl k) ?_
      show Goes p e below QQ (T1.setTop (mkF m 78 #[.val (.long p1), .second, .val (.long p2), .second, iv p3, .val (.long va), .second, .val (.long vb), .second, .val (.long (va + vb)), .second, .val (.long (9223372036854775807 : Int64)), .second] [(.int (lcmpW (satAdd va vb) (9223372036854775807 : Int64)))]))
      refine Goes.on (fun t k => XS.ifNo X1.here hx rfl (hb hby at_78) rfl ((if0 _ _).trans (teq ((lw_eq (satAdd va vb) (9223372036854775807 : Int64)).mpr (hS.1 hs))).2) k) ?_
      show Goes p e below QQ (T1.setTop (mkF m 81 #[.val (.long p1), .second, .val (.long p2), .second, iv p3, .val (.long va), .second, .val (.long vb), .second, .val (.long (va + vb)), .second, .val (.long (9223372036854775807 : Int64)), .second] []))
      refine Goes.on (fun t k => XS.iconst X1.here hx rfl (hb hby at_81) k) ?_
      show Goes p e below QQ (T1.setTop (mkF m 82 #[.val (.long p1), .second, .val (.long p2), .second, iv p3, .val (.long va), .second, .val (.long vb), .second, .val (.long (va + vb)), .second, .val (.long (9223372036854775807 : Int64)), .second] [(.int 1)]))
      refine Goes.on (fun t k => XS.goto X1.here hx rfl (pc0 := 82) (pc' := 86) rfl (hb hby at_82) (by decide) (by decide) k) ?_
      show Goes p e below QQ (T1.setTop (mkF m 86 #[.val (.long p1), .second, .val (.long p2), .second, iv p3, .val (.long va), .second, .val (.long vb), .second, .val (.long (va + vb)), .second, .val (.long (9223372036854775807 : Int64)), .second] [(.int 1)]))
      exact Goes.rN X1 hx (t := .boolean) hret (by simp) hlk (hb hby at_86) hQQ ⟨rfl, N1⟩ (by decide) (by decide)
    · refine Goes.on (fun t k => XS.ifYes X0.here hx rfl (pc0 := 55) (pc' := 64) rfl (hb hby at_55) rfl ((if0 _ _).trans (flt (mt (lw_lt (va + vb) (0 : Int64)).mp hs)).2.1) (by decide) (by decide) k) ?_
      show Goes p e below QQ (s₁.setTop (mkF m 64 #[.val (.long p1), .second, .val (.long p2), .second, iv p3, .val (.long va), .second, .val (.long vb), .second, .val (.long (va + vb)), .second, .unset, .unset] []))
      refine Goes.on (fun t k => XS.lload X0.here hx rfl (hb hby at_64) rfl k) ?_
      show Goes p e below QQ (s₁.setTop (mkF m 66 #[.val (.long p1), .second, .val (.long p2), .second, iv p3, .val (.long va), .second, .val (.long vb), .second, .val (.long (va + vb)), .second, .unset, .unset] [(.long (va + vb))]))
      refine Goes.on (fun t k => XS.lstore X0.here hx rfl (hb hby at_66) rfl (l' := #[.val (.long p1), .second, .val (.long p2), .second, iv p3, .val (.long va), .second, .val (.long vb), .second, .val (.long (va + vb)), .second, .val (.long (va + vb)), .second]) rfl k) ?_
      show Goes p e below QQ (s₁.setTop (mkF m 68 #[.val (.long p1), .second, .val (.long p2), .second, iv p3, .val (.long va), .second, .val (.long vb), .second, .val (.long (va + vb)), .second, .val (.long (va + vb)), .second] []))
      refine Goes.on (fun t k => XS.lload X0.here hx rfl (hb hby at_68) rfl k) ?_
      show Goes p e below QQ (s₁.setTop (mkF m 70 #[.val (.long p1), .second, .val (.long p2), .second, iv p3, .val (.long va), .second, .val (.long vb), .second, .val (.long (va + vb)), .second, .val (.long (va + vb)), .second] [(.long va)]))
      refine Goes.on (fun t k => XS.lload X0.here hx rfl (hb hby at_70) rfl k) ?_
      show Goes p e below QQ (s₁.setTop (mkF m 72 #[.val (.long p1), .second, .val (.long p2), .second, iv p3, .val (.long va), .second, .val (.long vb), .second, .val (.long (va + vb)), .second, .val (.long (va + vb)), .second] [(.long vb), (.long va)]))
      obtain ⟨_, _, ⟨T2, L2, k2, n2⟩, -, X2, ⟨Lc2, hQ2, l2, y2, z2⟩, st2⟩ := Jvm.LawKit.callS X0 hx (y := (⟨"com/example/threadline/threadline/util/Saturating", "add", "(JJ)J"⟩ : MethodName)) hown (mvT hZ (hw _ (List.mem_of_getElem? (i := 1) rfl))) (mvT hZ (hw _ (List.mem_of_getElem? (i := 2) rfl))) (mvT hZ (hw _ (List.mem_of_getElem? (i := 3) rfl))) (mvT hZ (hw _ (List.mem_of_getElem? (i := 4) rfl))) (by decide) (backOf (W := 0) (rm1 l Z a0 hw [] va vb h0 n0 (Nat.le_trans Z0 K0.1) ) hZ (hw _ (List.mem_of_getElem? (i := 4) rfl)) (hw _ (List.mem_of_getElem? (i := 3) rfl)) (by decide) (by decide)) (g := (mkF m 72 #[.val (.long p1), .second, .val (.long p2), .second, iv p3, .val (.long va), .second, .val (.long vb), .second, .val (.long (va + vb)), .second, .val (.long (va + vb)), .second] [(.long vb), (.long va)])) rfl (by rw [hml]; rfl) (argsL := [(.long va), (.long vb)]) (rest := []) (lenOf pd_0 rfl) rfl (by show 2 * 0 + _ ≤ _; exact Nat.le_of_eq rfl) (hb hby at_72) (fun _ _ => ⟨rfl, e0, (by decide : 0 + 0 ≤ _), (by decide : 0 + 0 ≤ _)⟩)
      dsimp only [Pt.U, Pt.locs, Pt.cells, Pt.slots] at X2 l2 y2 z2 st2 hQ2
      subst l2 y2 z2
      obtain ⟨rfl, M2, e2⟩ := hQ2
      have N2 := Fr.app N0 M2
      refine Goes.on (fun t k => st2 _ k) ?_
      show Goes p e below QQ (T2.setTop (mkF m 75 #[.val (.long p1), .second, .val (.long p2), .second, iv p3, .val (.long va), .second, .val (.long vb), .second, .val (.long (va + vb)), .second, .val (.long (va + vb)), .second] [(.long (satAdd va vb))]))
      refine Goes.on (fun t k => XS.lload X2.here hx rfl (hb hby at_75) rfl k) ?_
      show Goes p e below QQ (T2.setTop (mkF m 77 #[.val (.long p1), .second, .val (.long p2), .second, iv p3, .val (.long va), .second, .val (.long vb), .second, .val (.long (va + vb)), .second, .val (.long (va + vb)), .second] [(.long (va + vb)), (.long (satAdd va vb))]))
      refine Goes.on (fun t k => XS.lcmp X2.here hx rfl (hb hby at_77) rfl k) ?_
      show Goes p e below QQ (T2.setTop (mkF m 78 #[.val (.long p1), .second, .val (.long p2), .second, iv p3, .val (.long va), .second, .val (.long vb), .second, .val (.long (va + vb)), .second, .val (.long (va + vb)), .second] [(.int (lcmpW (satAdd va vb) (va + vb)))]))
      refine Goes.on (fun t k => XS.ifNo X2.here hx rfl (hb hby at_78) rfl ((if0 _ _).trans (teq ((lw_eq (satAdd va vb) (va + vb)).mpr (hS.2 hs))).2) k) ?_
      show Goes p e below QQ (T2.setTop (mkF m 81 #[.val (.long p1), .second, .val (.long p2), .second, iv p3, .val (.long va), .second, .val (.long vb), .second, .val (.long (va + vb)), .second, .val (.long (va + vb)), .second] []))
      refine Goes.on (fun t k => XS.iconst X2.here hx rfl (hb hby at_81) k) ?_
      show Goes p e below QQ (T2.setTop (mkF m 82 #[.val (.long p1), .second, .val (.long p2), .second, iv p3, .val (.long va), .second, .val (.long vb), .second, .val (.long (va + vb)), .second, .val (.long (va + vb)), .second] [(.int 1)]))
      refine Goes.on (fun t k => XS.goto X2.here hx rfl (pc0 := 82) (pc' := 86) rfl (hb hby at_82) (by decide) (by decide) k) ?_
      show Goes p e below QQ (T2.setTop (mkF m 86 #[.val (.long p1), .second, .val (.long p2), .second, iv p3, .val (.long va), .second, .val (.long vb), .second, .val (.long (va + vb)), .second, .val (.long (va + vb)), .second] [(.int 1)]))
      exact Goes.rN X2 hx (t := .boolean) hret (by simp) hlk (hb hby at_86) hQQ ⟨rfl, N2⟩ (by decide) (by decide)
  · refine Goes.on (fun t k => XS.ifNo X0.here hx rfl (hb hby at_11) rfl ((if0 _ _).trans (feq h4).1) k) ?_
    show Goes p e below QQ (s₁.setTop (mkF m 14 #[.val (.long p1), .second, .val (.long p2), .second, iv p3, .val (.long (p1 &&& (9223372036854775807 : Int64))), .second, .unset, .unset, .unset, .unset, .unset, .unset] []))
    refine Goes.on (fun t k => X0.ldc2Long hx hown (mvT hZ (hw _ (List.mem_of_getElem? (i := 0) rfl))) (g := (mkF m 14 #[.val (.long p1), .second, .val (.long p2), .second, iv p3, .val (.long (p1 &&& (9223372036854775807 : Int64))), .second, .unset, .unset, .unset, .unset, .unset, .unset] [])) rfl (hb hby at_14) t k) ?_
    show Goes p e below QQ (s₁.setTop (mkF m 17 #[.val (.long p1), .second, .val (.long p2), .second, iv p3, .val (.long (p1 &&& (9223372036854775807 : Int64))), .second, .unset, .unset, .unset, .unset, .unset, .unset] [(.long (9223372036854775807 : Int64))]))
    refine Goes.on (fun t k => XS.lload X0.here hx rfl (hb hby at_17) rfl k) ?_
    show Goes p e below QQ (s₁.setTop (mkF m 19 #[.val (.long p1), .second, .val (.long p2), .second, iv p3, .val (.long (p1 &&& (9223372036854775807 : Int64))), .second, .unset, .unset, .unset, .unset, .unset, .unset] [(.long (p1 &&& (9223372036854775807 : Int64))), (.long (9223372036854775807 : Int64))]))
    refine Goes.on (fun t k => XS.lsub X0.here hx rfl (hb hby at_19) rfl k) ?_
    show Goes p e below QQ (s₁.setTop (mkF m 20 #[.val (.long p1), .second, .val (.long p2), .second, iv p3, .val (.long (p1 &&& (9223372036854775807 : Int64))), .second, .unset, .unset, .unset, .unset, .unset, .unset] [(.long ((9223372036854775807 : Int64) - (p1 &&& (9223372036854775807 : Int64))))]))
    refine Goes.on (fun t k => XS.iload X0.here hx rfl (hb hby at_20) rfl k) ?_
    show Goes p e below QQ (s₁.setTop (mkF m 22 #[.val (.long p1), .second, .val (.long p2), .second, iv p3, .val (.long (p1 &&& (9223372036854775807 : Int64))), .second, .unset, .unset, .unset, .unset, .unset, .unset] [(.int p3), (.long ((9223372036854775807 : Int64) - (p1 &&& (9223372036854775807 : Int64))))]))
    refine Goes.on (fun t k => XS.iconst X0.here hx rfl (hb hby at_22) k) ?_
    show Goes p e below QQ (s₁.setTop (mkF m 23 #[.val (.long p1), .second, .val (.long p2), .second, iv p3, .val (.long (p1 &&& (9223372036854775807 : Int64))), .second, .unset, .unset, .unset, .unset, .unset, .unset] [(.int 3), (.int p3), (.long ((9223372036854775807 : Int64) - (p1 &&& (9223372036854775807 : Int64))))]))
    refine Goes.on (fun t k => XS.iand X0.here hx rfl (hb hby at_23) rfl k) ?_
    show Goes p e below QQ (s₁.setTop (mkF m 24 #[.val (.long p1), .second, .val (.long p2), .second, iv p3, .val (.long (p1 &&& (9223372036854775807 : Int64))), .second, .unset, .unset, .unset, .unset, .unset, .unset] [(.int (p3 &&& (3 : Int32))), (.long ((9223372036854775807 : Int64) - (p1 &&& (9223372036854775807 : Int64))))]))
    refine Goes.on (fun t k => XS.iconst X0.here hx rfl (hb hby at_24) k) ?_
    show Goes p e below QQ (s₁.setTop (mkF m 25 #[.val (.long p1), .second, .val (.long p2), .second, iv p3, .val (.long (p1 &&& (9223372036854775807 : Int64))), .second, .unset, .unset, .unset, .unset, .unset, .unset] [(.int 1), (.int (p3 &&& (3 : Int32))), (.long ((9223372036854775807 : Int64) - (p1 &&& (9223372036854775807 : Int64))))]))
    refine Goes.on (fun t k => XS.isub X0.here hx rfl (hb hby at_25) rfl k) ?_
    show Goes p e below QQ (s₁.setTop (mkF m 26 #[.val (.long p1), .second, .val (.long p2), .second, iv p3, .val (.long (p1 &&& (9223372036854775807 : Int64))), .second, .unset, .unset, .unset, .unset, .unset, .unset] [(.int ((p3 &&& (3 : Int32)) - (1 : Int32))), (.long ((9223372036854775807 : Int64) - (p1 &&& (9223372036854775807 : Int64))))]))
    refine Goes.on (fun t k => XS.i2l X0.here hx rfl (hb hby at_26) rfl k) ?_
    show Goes p e below QQ (s₁.setTop (mkF m 27 #[.val (.long p1), .second, .val (.long p2), .second, iv p3, .val (.long (p1 &&& (9223372036854775807 : Int64))), .second, .unset, .unset, .unset, .unset, .unset, .unset] [(.long ((p3 &&& (3 : Int32)) - (1 : Int32)).toInt64), (.long ((9223372036854775807 : Int64) - (p1 &&& (9223372036854775807 : Int64))))]))
    refine Goes.on (fun t k => XS.ladd X0.here hx rfl (hb hby at_27) rfl k) ?_
    show Goes p e below QQ (s₁.setTop (mkF m 28 #[.val (.long p1), .second, .val (.long p2), .second, iv p3, .val (.long (p1 &&& (9223372036854775807 : Int64))), .second, .unset, .unset, .unset, .unset, .unset, .unset] [(.long (((9223372036854775807 : Int64) - (p1 &&& (9223372036854775807 : Int64))) + ((p3 &&& (3 : Int32)) - (1 : Int32)).toInt64))]))
    refine Goes.on (fun t k => X0.ldc2Long hx hown (mvT hZ (hw _ (List.mem_of_getElem? (i := 0) rfl))) (g := (mkF m 28 #[.val (.long p1), .second, .val (.long p2), .second, iv p3, .val (.long (p1 &&& (9223372036854775807 : Int64))), .second, .unset, .unset, .unset, .unset, .unset, .unset] [(.long (((9223372036854775807 : Int64) - (p1 &&& (9223372036854775807 : Int64))) + ((p3 &&& (3 : Int32)) - (1 : Int32)).toInt64))])) rfl (hb hby at_28) t k) ?_
    show Goes p e below QQ (s₁.setTop (mkF m 31 #[.val (.long p1), .second, .val (.long p2), .second, iv p3, .val (.long (p1 &&& (9223372036854775807 : Int64))), .second, .unset, .unset, .unset, .unset, .unset, .unset] [(.long (9223372036854775807 : Int64)), (.long (((9223372036854775807 : Int64) - (p1 &&& (9223372036854775807 : Int64))) + ((p3 &&& (3 : Int32)) - (1 : Int32)).toInt64))]))
    refine Goes.on (fun t k => XS.land X0.here hx rfl (hb hby at_31) rfl k) ?_
    show Goes p e below QQ (s₁.setTop (mkF m 32 #[.val (.long p1), .second, .val (.long p2), .second, iv p3, .val (.long (p1 &&& (9223372036854775807 : Int64))), .second, .unset, .unset, .unset, .unset, .unset, .unset] [(.long ((((9223372036854775807 : Int64) - (p1 &&& (9223372036854775807 : Int64))) + ((p3 &&& (3 : Int32)) - (1 : Int32)).toInt64) &&& (9223372036854775807 : Int64)))]))
    refine Goes.on (fun t k => XS.lstore X0.here hx rfl (hb hby at_32) rfl (l' := #[.val (.long p1), .second, .val (.long p2), .second, iv p3, .val (.long (p1 &&& (9223372036854775807 : Int64))), .second, .val (.long ((((9223372036854775807 : Int64) - (p1 &&& (9223372036854775807 : Int64))) + ((p3 &&& (3 : Int32)) - (1 : Int32)).toInt64) &&& (9223372036854775807 : Int64))), .second, .unset, .unset, .unset, .unset]) rfl k) ?_
    show Goes p e below QQ (s₁.setTop (mkF m 34 #[.val (.long p1), .second, .val (.long p2), .second, iv p3, .val (.long (p1 &&& (9223372036854775807 : Int64))), .second, .val (.long ((((9223372036854775807 : Int64) - (p1 &&& (9223372036854775807 : Int64))) + ((p3 &&& (3 : Int32)) - (1 : Int32)).toInt64) &&& (9223372036854775807 : Int64))), .second, .unset, .unset, .unset, .unset] []))
    refine Goes.on (fun t k => XS.goto X0.here hx rfl (pc0 := 34) (pc' := 44) rfl (hb hby at_34) (by decide) (by decide) k) ?_
    show Goes p e below QQ (s₁.setTop (mkF m 44 #[.val (.long p1), .second, .val (.long p2), .second, iv p3, .val (.long (p1 &&& (9223372036854775807 : Int64))), .second, .val (.long ((((9223372036854775807 : Int64) - (p1 &&& (9223372036854775807 : Int64))) + ((p3 &&& (3 : Int32)) - (1 : Int32)).toInt64) &&& (9223372036854775807 : Int64))), .second, .unset, .unset, .unset, .unset] []))
    have hB : 0 ≤ (((((9223372036854775807 : Int64) - (p1 &&& (9223372036854775807 : Int64))) + ((p3 &&& (3 : Int32)) - (1 : Int32)).toInt64) &&& (9223372036854775807 : Int64))).toInt := own_pos _
    have hS := own_sat (p1 &&& (9223372036854775807 : Int64)) ((((9223372036854775807 : Int64) - (p1 &&& (9223372036854775807 : Int64))) + ((p3 &&& (3 : Int32)) - (1 : Int32)).toInt64) &&& (9223372036854775807 : Int64)) hA hB
    generalize hA' : (p1 &&& (9223372036854775807 : Int64)) = va at *
    generalize hB' : ((((9223372036854775807 : Int64) - va) + ((p3 &&& (3 : Int32)) - (1 : Int32)).toInt64) &&& (9223372036854775807 : Int64)) = vb at *
    show Goes p e below QQ (s₁.setTop (mkF m 44 #[.val (.long p1), .second, .val (.long p2), .second, iv p3, .val (.long va), .second, .val (.long vb), .second, .unset, .unset, .unset, .unset] []))
    refine Goes.on (fun t k => XS.lload X0.here hx rfl (hb hby at_44) rfl k) ?_
    show Goes p e below QQ (s₁.setTop (mkF m 46 #[.val (.long p1), .second, .val (.long p2), .second, iv p3, .val (.long va), .second, .val (.long vb), .second, .unset, .unset, .unset, .unset] [(.long va)]))
    refine Goes.on (fun t k => XS.lload X0.here hx rfl (hb hby at_46) rfl k) ?_
    show Goes p e below QQ (s₁.setTop (mkF m 48 #[.val (.long p1), .second, .val (.long p2), .second, iv p3, .val (.long va), .second, .val (.long vb), .second, .unset, .unset, .unset, .unset] [(.long vb), (.long va)]))
    refine Goes.on (fun t k => XS.ladd X0.here hx rfl (hb hby at_48) rfl k) ?_
    show Goes p e below QQ (s₁.setTop (mkF m 49 #[.val (.long p1), .second, .val (.long p2), .second, iv p3, .val (.long va), .second, .val (.long vb), .second, .unset, .unset, .unset, .unset] [(.long (va + vb))]))
    refine Goes.on (fun t k => XS.lstore X0.here hx rfl (hb hby at_49) rfl (l' := #[.val (.long p1), .second, .val (.long p2), .second, iv p3, .val (.long va), .second, .val (.long vb), .second, .val (.long (va + vb)), .second, .unset, .unset]) rfl k) ?_
    show Goes p e below QQ (s₁.setTop (mkF m 51 #[.val (.long p1), .second, .val (.long p2), .second, iv p3, .val (.long va), .second, .val (.long vb), .second, .val (.long (va + vb)), .second, .unset, .unset] []))
    refine Goes.on (fun t k => XS.lload X0.here hx rfl (hb hby at_51) rfl k) ?_
    show Goes p e below QQ (s₁.setTop (mkF m 53 #[.val (.long p1), .second, .val (.long p2), .second, iv p3, .val (.long va), .second, .val (.long vb), .second, .val (.long (va + vb)), .second, .unset, .unset] [(.long (va + vb))]))
    refine Goes.on (fun t k => XS.lconst X0.here hx rfl (hb hby at_53) k) ?_
    show Goes p e below QQ (s₁.setTop (mkF m 54 #[.val (.long p1), .second, .val (.long p2), .second, iv p3, .val (.long va), .second, .val (.long vb), .second, .val (.long (va + vb)), .second, .unset, .unset] [(.long (0 : Int64)), (.long (va + vb))]))
    refine Goes.on (fun t k => XS.lcmp X0.here hx rfl (hb hby at_54) rfl k) ?_
    show Goes p e below QQ (s₁.setTop (mkF m 55 #[.val (.long p1), .second, .val (.long p2), .second, iv p3, .val (.long va), .second, .val (.long vb), .second, .val (.long (va + vb)), .second, .unset, .unset] [(.int (lcmpW (va + vb) (0 : Int64)))]))
    by_cases hs : (va + vb) < (0 : Int64)
    · refine Goes.on (fun t k => XS.ifNo X0.here hx rfl (hb hby at_55) rfl ((if0 _ _).trans (tlt ((lw_lt (va + vb) (0 : Int64)).mpr hs)).2.1) k) ?_
      show Goes p e below QQ (s₁.setTop (mkF m 58 #[.val (.long p1), .second, .val (.long p2), .second, iv p3, .val (.long va), .second, .val (.long vb), .second, .val (.long (va + vb)), .second, .unset, .unset] []))
      refine Goes.on (fun t k => X0.ldc2Long hx hown (mvT hZ (hw _ (List.mem_of_getElem? (i := 0) rfl))) (g := (mkF m 58 #[.val (.long p1), .second, .val (.long p2), .second, iv p3, .val (.long va), .second, .val (.long vb), .second, .val (.long (va + vb)), .second, .unset, .unset] [])) rfl (hb hby at_58) t k) ?_
      show Goes p e below QQ (s₁.setTop (mkF m 61 #[.val (.long p1), .second, .val (.long p2), .second, iv p3, .val (.long va), .second, .val (.long vb), .second, .val (.long (va + vb)), .second, .unset, .unset] [(.long (9223372036854775807 : Int64))]))
      refine Goes.on (fun t k => XS.goto X0.here hx rfl (pc0 := 61) (pc' := 66) rfl (hb hby at_61) (by decide) (by decide) k) ?_
      show Goes p e below QQ (s₁.setTop (mkF m 66 #[.val (.long p1), .second, .val (.long p2), .second, iv p3, .val (.long va), .second, .val (.long vb), .second, .val (.long (va + vb)), .second, .unset, .unset] [(.long (9223372036854775807 : Int64))]))
      refine Goes.on (fun t k => XS.lstore X0.here hx rfl (hb hby at_66) rfl (l' := #[.val (.long p1), .second, .val (.long p2), .second, iv p3, .val (.long va), .second, .val (.long vb), .second, .val (.long (va + vb)), .second, .val (.long (9223372036854775807 : Int64)), .second]) rfl k) ?_
      show Goes p e below QQ (s₁.setTop (mkF m 68 #[.val (.long p1), .second, .val (.long p2), .second, iv p3, .val (.long va), .second, .val (.long vb), .second, .val (.long (va + vb)), .second, .val (.long (9223372036854775807 : Int64)), .second] []))
      refine Goes.on (fun t k => XS.lload X0.here hx rfl (hb hby at_68) rfl k) ?_
      show Goes p e below QQ (s₁.setTop (mkF m 70 #[.val (.long p1), .second, .val (.long p2), .second, iv p3, .val (.long va), .second, .val (.long vb), .second, .val (.long (va + vb)), .second, .val (.long (9223372036854775807 : Int64)), .second] [(.long va)]))
      refine Goes.on (fun t k => XS.lload X0.here hx rfl (hb hby at_70) rfl k) ?_
      show Goes p e below QQ (s₁.setTop (mkF m 72 #[.val (.long p1), .second, .val (.long p2), .second, iv p3, .val (.long va), .second, .val (.long vb), .second, .val (.long (va + vb)), .second, .val (.long (9223372036854775807 : Int64)), .second] [(.long vb), (.long va)]))
      obtain ⟨_, _, ⟨T3, L3, k3, n3⟩, -, X3, ⟨Lc3, hQ3, l3, y3, z3⟩, st3⟩ := Jvm.LawKit.callS X0 hx (y := (⟨"com/example/threadline/threadline/util/Saturating", "add", "(JJ)J"⟩ : MethodName)) hown (mvT hZ (hw _ (List.mem_of_getElem? (i := 1) rfl))) (mvT hZ (hw _ (List.mem_of_getElem? (i := 2) rfl))) (mvT hZ (hw _ (List.mem_of_getElem? (i := 3) rfl))) (mvT hZ (hw _ (List.mem_of_getElem? (i := 4) rfl))) (by decide) (backOf (W := 0) (rm1 l Z a0 hw [] va vb h0 n0 (Nat.le_trans Z0 K0.1) ) hZ (hw _ (List.mem_of_getElem? (i := 4) rfl)) (hw _ (List.mem_of_getElem? (i := 3) rfl)) (by decide) (by decide)) (g := (mkF m 72 #[.val (.long p1), .second, .val (.long p2), .second, iv p3, .val (.long va), .second, .val (.long vb), .second, .val (.long (va + vb)), .second, .val (.long (9223372036854775807 : Int64)), .second] [(.long vb), (.long va)])) rfl (by rw [hml]; rfl) (argsL := [(.long va), (.long vb)]) (rest := []) (lenOf pd_0 rfl) rfl (by show 2 * 0 + _ ≤ _; exact Nat.le_of_eq rfl) (hb hby at_72) (fun _ _ => ⟨rfl, e0, (by decide : 0 + 0 ≤ _), (by decide : 0 + 0 ≤ _)⟩)
      dsimp only [Pt.U, Pt.locs, Pt.cells, Pt.slots] at X3 l3 y3 z3 st3 hQ3
      subst l3 y3 z3
      obtain ⟨rfl, M3, e3⟩ := hQ3
      have N3 := Fr.app N0 M3
      refine Goes.on (fun t k => st3 _ k) ?_
      show Goes p e below QQ (T3.setTop (mkF m 75 #[.val (.long p1), .second, .val (.long p2), .second, iv p3, .val (.long va), .second, .val (.long vb), .second, .val (.long (va + vb)), .second, .val (.long (9223372036854775807 : Int64)), .second] [(.long (satAdd va vb))]))
      refine Goes.on (fun t k => XS.lload X3.here hx rfl (hb hby at_75) rfl k) ?_
      show Goes p e below QQ (T3.setTop (mkF m 77 #[.val (.long p1), .second, .val (.long p2), .second, iv p3, .val (.long va), .second, .val (.long vb), .second, .val (.long (va + vb)), .second, .val (.long (9223372036854775807 : Int64)), .second] [(.long (9223372036854775807 : Int64)), (.long (satAdd va vb))]))
      refine Goes.on (fun t k => XS.lcmp X3.here hx rfl (hb hby at_77) rfl k) ?_
      show Goes p e below QQ (T3.setTop (mkF m 78 #[.val (.long p1), .second, .val (.long p2), .second, iv p3, .val (.long va), .second, .val (.long vb), .second, .val (.long (va + vb)), .second, .val (.long (9223372036854775807 : Int64)), .second] [(.int (lcmpW (satAdd va vb) (9223372036854775807 : Int64)))]))
      refine Goes.on (fun t k => XS.ifNo X3.here hx rfl (hb hby at_78) rfl ((if0 _ _).trans (teq ((lw_eq (satAdd va vb) (9223372036854775807 : Int64)).mpr (hS.1 hs))).2) k) ?_
      show Goes p e below QQ (T3.setTop (mkF m 81 #[.val (.long p1), .second, .val (.long p2), .second, iv p3, .val (.long va), .second, .val (.long vb), .second, .val (.long (va + vb)), .second, .val (.long (9223372036854775807 : Int64)), .second] []))
      refine Goes.on (fun t k => XS.iconst X3.here hx rfl (hb hby at_81) k) ?_
      show Goes p e below QQ (T3.setTop (mkF m 82 #[.val (.long p1), .second, .val (.long p2), .second, iv p3, .val (.long va), .second, .val (.long vb), .second, .val (.long (va + vb)), .second, .val (.long (9223372036854775807 : Int64)), .second] [(.int 1)]))
      refine Goes.on (fun t k => XS.goto X3.here hx rfl (pc0 := 82) (pc' := 86) rfl (hb hby at_82) (by decide) (by decide) k) ?_
      show Goes p e below QQ (T3.setTop (mkF m 86 #[.val (.long p1), .second, .val (.long p2), .second, iv p3, .val (.long va), .second, .val (.long vb), .second, .val (.long (va + vb)), .second, .val (.long (9223372036854775807 : Int64)), .second] [(.int 1)]))
      exact Goes.rN X3 hx (t := .boolean) hret (by simp) hlk (hb hby at_86) hQQ ⟨rfl, N3⟩ (by decide) (by decide)
    · refine Goes.on (fun t k => XS.ifYes X0.here hx rfl (pc0 := 55) (pc' := 64) rfl (hb hby at_55) rfl ((if0 _ _).trans (flt (mt (lw_lt (va + vb) (0 : Int64)).mp hs)).2.1) (by decide) (by decide) k) ?_
      show Goes p e below QQ (s₁.setTop (mkF m 64 #[.val (.long p1), .second, .val (.long p2), .second, iv p3, .val (.long va), .second, .val (.long vb), .second, .val (.long (va + vb)), .second, .unset, .unset] []))
      refine Goes.on (fun t k => XS.lload X0.here hx rfl (hb hby at_64) rfl k) ?_
      show Goes p e below QQ (s₁.setTop (mkF m 66 #[.val (.long p1), .second, .val (.long p2), .second, iv p3, .val (.long va), .second, .val (.long vb), .second, .val (.long (va + vb)), .second, .unset, .unset] [(.long (va + vb))]))
      refine Goes.on (fun t k => XS.lstore X0.here hx rfl (hb hby at_66) rfl (l' := #[.val (.long p1), .second, .val (.long p2), .second, iv p3, .val (.long va), .second, .val (.long vb), .second, .val (.long (va + vb)), .second, .val (.long (va + vb)), .second]) rfl k) ?_
      show Goes p e below QQ (s₁.setTop (mkF m 68 #[.val (.long p1), .second, .val (.long p2), .second, iv p3, .val (.long va), .second, .val (.long vb), .second, .val (.long (va + vb)), .second, .val (.long (va + vb)), .second] []))
      refine Goes.on (fun t k => XS.lload X0.here hx rfl (hb hby at_68) rfl k) ?_
      show Goes p e below QQ (s₁.setTop (mkF m 70 #[.val (.long p1), .second, .val (.long p2), .second, iv p3, .val (.long va), .second, .val (.long vb), .second, .val (.long (va + vb)), .second, .val (.long (va + vb)), .second] [(.long va)]))
      refine Goes.on (fun t k => XS.lload X0.here hx rfl (hb hby at_70) rfl k) ?_
      show Goes p e below QQ (s₁.setTop (mkF m 72 #[.val (.long p1), .second, .val (.long p2), .second, iv p3, .val (.long va), .second, .val (.long vb), .second, .val (.long (va + vb)), .second, .val (.long (va + vb)), .second] [(.long vb), (.long va)]))
      obtain ⟨_, _, ⟨T4, L4, k4, n4⟩, -, X4, ⟨Lc4, hQ4, l4, y4, z4⟩, st4⟩ := Jvm.LawKit.callS X0 hx (y := (⟨"com/example/threadline/threadline/util/Saturating", "add", "(JJ)J"⟩ : MethodName)) hown (mvT hZ (hw _ (List.mem_of_getElem? (i := 1) rfl))) (mvT hZ (hw _ (List.mem_of_getElem? (i := 2) rfl))) (mvT hZ (hw _ (List.mem_of_getElem? (i := 3) rfl))) (mvT hZ (hw _ (List.mem_of_getElem? (i := 4) rfl))) (by decide) (backOf (W := 0) (rm1 l Z a0 hw [] va vb h0 n0 (Nat.le_trans Z0 K0.1) ) hZ (hw _ (List.mem_of_getElem? (i := 4) rfl)) (hw _ (List.mem_of_getElem? (i := 3) rfl)) (by decide) (by decide)) (g := (mkF m 72 #[.val (.long p1), .second, .val (.long p2), .second, iv p3, .val (.long va), .second, .val (.long vb), .second, .val (.long (va + vb)), .second, .val (.long (va + vb)), .second] [(.long vb), (.long va)])) rfl (by rw [hml]; rfl) (argsL := [(.long va), (.long vb)]) (rest := []) (lenOf pd_0 rfl) rfl (by show 2 * 0 + _ ≤ _; exact Nat.le_of_eq rfl) (hb hby at_72) (fun _ _ => ⟨rfl, e0, (by decide : 0 + 0 ≤ _), (by decide : 0 + 0 ≤ _)⟩)
      dsimp only [Pt.U, Pt.locs, Pt.cells, Pt.slots] at X4 l4 y4 z4 st4 hQ4
      subst l4 y4 z4
      obtain ⟨rfl, M4, e4⟩ := hQ4
      have N4 := Fr.app N0 M4
      refine Goes.on (fun t k => st4 _ k) ?_
      show Goes p e below QQ (T4.setTop (mkF m 75 #[.val (.long p1), .second, .val (.long p2), .second, iv p3, .val (.long va), .second, .val (.long vb), .second, .val (.long (va + vb)), .second, .val (.long (va + vb)), .second] [(.long (satAdd va vb))]))
      refine Goes.on (fun t k => XS.lload X4.here hx rfl (hb hby at_75) rfl k) ?_
      show Goes p e below QQ (T4.setTop (mkF m 77 #[.val (.long p1), .second, .val (.long p2), .second, iv p3, .val (.long va), .second, .val (.long vb), .second, .val (.long (va + vb)), .second, .val (.long (va + vb)), .second] [(.long (va + vb)), (.long (satAdd va vb))]))
      refine Goes.on (fun t k => XS.lcmp X4.here hx rfl (hb hby at_77) rfl k) ?_
      show Goes p e below QQ (T4.setTop (mkF m 78 #[.val (.long p1), .second, .val (.long p2), .second, iv p3, .val (.long va), .second, .val (.long vb), .second, .val (.long (va + vb)), .second, .val (.long (va + vb)), .second] [(.int (lcmpW (satAdd va vb) (va + vb)))]))
      refine Goes.on (fun t k => XS.ifNo X4.here hx rfl (hb hby at_78) rfl ((if0 _ _).trans (teq ((lw_eq (satAdd va vb) (va + vb)).mpr (hS.2 hs))).2) k) ?_
      show Goes p e below QQ (T4.setTop (mkF m 81 #[.val (.long p1), .second, .val (.long p2), .second, iv p3, .val (.long va), .second, .val (.long vb), .second, .val (.long (va + vb)), .second, .val (.long (va + vb)), .second] []))
      refine Goes.on (fun t k => XS.iconst X4.here hx rfl (hb hby at_81) k) ?_
      show Goes p e below QQ (T4.setTop (mkF m 82 #[.val (.long p1), .second, .val (.long p2), .second, iv p3, .val (.long va), .second, .val (.long vb), .second, .val (.long (va + vb)), .second, .val (.long (va + vb)), .second] [(.int 1)]))
      refine Goes.on (fun t k => XS.goto X4.here hx rfl (pc0 := 82) (pc' := 86) rfl (hb hby at_82) (by decide) (by decide) k) ?_
      show Goes p e below QQ (T4.setTop (mkF m 86 #[.val (.long p1), .second, .val (.long p2), .second, iv p3, .val (.long va), .second, .val (.long vb), .second, .val (.long (va + vb)), .second, .val (.long (va + vb)), .second] [(.int 1)]))
      exact Goes.rN X4 hx (t := .boolean) hret (by simp) hlk (hb hby at_86) hQQ ⟨rfl, N4⟩ (by decide) (by decide)
set_option maxRecDepth 65536 in
set_option maxHeartbeats 40000000 in
theorem comes_1 {Post : Tables → Env → Array Value → State → Outcome → State → Prop} (hpost : ∀ tb e args s v u, (limb_1_1.after args s (.returned v) u = true ∧ limb_1_2.after args s (.returned v) u = true ∧ True) → FrameEnd s (.returned v) u (Jvm.fieldLocs frame_1_writes args s ++ Jvm.arrayLocs frame_1_arrays args s ++ Jvm.staticLocs frame_1_statics s) 0 0 → Post tb e args s (.returned v) u) :
    ArmFor flags0 classFile x code maxLocals ret World_1 tables_1 room_1 Calls_1 rest_1 Pre_1 Post := by
  intro l hfl _ _ p e ha hc hk s m args below hf hA hF happ hP
  obtain ⟨hcalls, hrest, hpre⟩ := hP
  obtain ⟨-, -, -, hnamed, -, -, -, hat⟩ := (Spec.applies_iff hf).mp happ
  obtain ⟨hg, hn⟩ := and_e (Cond.before_iff.mp (show (Jvm.Cond.and given_1 narrow_1).before args s = true from hpre))
  obtain ⟨hg0, hg1⟩ := and_e hg
  obtain ⟨ga1, hg2⟩ := and_e hg1
  obtain ⟨ga2, hg3⟩ := and_e hg2
  obtain ⟨w0, w1, w2, rfl⟩ : ∃ w0 w1 w2 : Value, args = #[w0, w1, w2] := by
    have hs : args.size = 3 := by simpa [Cond.value, given_1] using hg0
    obtain ⟨L⟩ := args
    match L, hs with
    | [w0, w1, w2], _ => exact ⟨w0, w1, w2, rfl⟩
  have hw := fun d (hd : d ∈ tables_1) => atoms_spec (ws := Jvm.Cond.code x code maxLocals ret :: tables_1) hat d (List.mem_cons_of_mem _ hd)
  have hfit : Fit s := fun {y c} hc i hi => by
    obtain ⟨ha, rfl⟩ := Array.getElem?_eq_some_iff.mp hc
    have q := List.all_eq_true.mp ((Array.all_eq_true_iff_forall_mem.mp hF) _ (Array.getElem_mem ha)) i (List.mem_range.mpr hi)
    simpa [Array.getElem?_eq_getElem hi] using q
  obtain ⟨i0, ei0⟩ := isL_v ga1
  obtain rfl : w0 = (.long i0) := Option.some.inj ei0
  obtain ⟨i1, ei1⟩ := isL_v ga2
  obtain rfl : w1 = (.long i1) := Option.some.inj ei1
  obtain ⟨i2, ei2⟩ := is_v hg3
  obtain rfl : w2 = (.int i2) := Option.some.inj ei2
  obtain ⟨n, o, h1, h2, h3, _, L, rfl, ⟨rfl, N⟩, hq⟩ := rm0 l s _ hw tables_1 i0 i1 i2 s.heap s.heap.size (Nat.le_refl _)  p e ha hc hk s m _ below hf ((Spec.applies_iff_loose hf).mp happ).1 ⟨rfl, State.Warmed39.refl s, rfl⟩ trivial
  refine ⟨n, _, h1, h2, h3, hpost _ _ _ _ _ _ ⟨Cond.after_iff.mpr rfl, Cond.after_iff.mpr (eq_i res_at (Term.int_eval (1)) rfl), trivial⟩ ⟨hq.1, hq.2.1, (hq.2.2.sift fun y hy => Or.inr (N y hy)).mono (by decide) (by decide)⟩⟩
theorem main_1_1 : Claimed_1_1 := comes_1 fun _ _ _ _ _ _ h hF => ⟨h.1, hF⟩
theorem main_1_2 : Claimed_1_2 := comes_1 fun _ _ _ _ _ _ h hF => ⟨h.2.1, hF⟩
end Jvm.Pilot.@@N@@
namespace Jvm.Pilot.@@N@@
open Jvm Jvm.ClassFile Sem Op Lib Jvm.Free Jvm.Stand Jvm.Pilot.@@N@@.Jvm.D
/-! MADE BY PROGRAM (witnessworld.py) out of the Statement's table words and the real class files: 9 classes; the members and pool entries that the words name. The judged class is class 1, her method 1. -/
namespace start1
open Jvm.ClassFile
def u (s : String) : CpInfo := .utf8 (stringToUtf16 s)
/-- a pool by its gaps: so many unusable entries, then the entry; so many at the end -/
def gap : Nat → List CpInfo → List CpInfo
  | 0, r => r
  | n + 1, r => .unusable :: gap n r
def poolList (es : List (Nat × CpInfo)) (last : Nat) : List CpInfo := es.foldr (fun e r => gap e.1 (e.2 :: r)) (gap last [])
def pool (es : List (Nat × CpInfo)) (last : Nat) : Array CpInfo := ⟨poolList es last⟩
def fileOf (pool : Array CpInfo) (this : Nat) (attrs : Array Attribute := #[]) (ms : Array MethodInfo := #[]) (fl : Nat := 33) (sup : Nat := 0) (ifs : Array Nat := #[]) (fds : Array FieldInfo := #[]) : ClassFile where
  minorVersion := 0
  majorVersion := 65
  constantPool := pool
  accessFlags := fl
  thisClass := this
  superClass := sup
  interfaces := ifs
  fields := fds
  methods := ms
  attributes := attrs
def plain (name : String) (sup : Option ClassId) : Class where
  name := name
  kind := .ordinary
  loader := none
  accessFlags := 33
  super := sup
  interfaces := #[]
  cf := none
  fields := #[]
  methods := #[]
  instanceTypes := #[]
  staticTypes := #[]
  resolved := #[]
  callSites := []
  init := .initialized
  statics := none
  mirror := none

def pool0 : Array CpInfo := pool [(5, u "<init>"), (0, u "()V"), (1, .class_ 10), (1, u "java/lang/Object")] 113

def k0m0 : Method := { name := "<init>", desc := "()V", sig := { parameters := [], returnType := none }, accessFlags := 1, code := none }
/-- java/lang/Object -/
def k0 : Class := { plain "java/lang/Object" none with
  accessFlags := 33
  interfaces := #[]
  cf := some (fileOf pool0 8 #[] #[{ accessFlags := 1, nameIndex := 5, descriptorIndex := 6, attributes := #[] }] 33 0 #[] #[])
  fields := #[]
  methods := #[k0m0]
  instanceTypes := #[]
  staticTypes := #[]
  resolved := Array.replicate 124 none
  statics := none }

def pool1 : Array CpInfo := pool [(2, .class_ 4), (1, u "java/lang/Object"), (0, u "<init>"), (0, u "()V"), (2, .long 9223372036854775807), (1, .methodref 12 13), (0, .class_ 14), (0, .nameAndType 15 16), (0, u "com/example/threadline/threadline/util/Saturating"), (0, u "add"), (0, u "(JJ)J"), (0, .class_ 18), (0, u "com/example/threadline/threadline/util/SaturatingAddPinLaw"), (2, u "law"), (0, u "(JJI)Z")] 3

def k1m0 : Method := { name := "<init>", desc := "()V", sig := { parameters := [], returnType := none }, accessFlags := 1, code := none }
def k1c1 : Code := { maxStack := 4, maxLocals := 13, code := code, exceptionTable := #[], attributes := #[] }
def k1m1 : Method := { name := "law", desc := "(JJI)Z", sig := { parameters := [.long, .long, .int], returnType := some .boolean }, accessFlags := 9, code := some k1c1 }
/-- com/example/threadline/threadline/util/SaturatingAddPinLaw -/
def k1 : Class := { plain "com/example/threadline/threadline/util/SaturatingAddPinLaw" (some 0) with
  accessFlags := 49
  interfaces := #[]
  cf := some (fileOf pool1 17 #[] #[{ accessFlags := 1, nameIndex := 5, descriptorIndex := 6, attributes := #[] }, { accessFlags := 9, nameIndex := 21, descriptorIndex := 22, attributes := #[] }] 49 2 #[] #[])
  fields := #[]
  methods := #[k1m0, k1m1]
  instanceTypes := #[]
  staticTypes := #[]
  resolved := Array.replicate 26 none
  statics := none }

def pool2 : Array CpInfo := pool [(2, .class_ 4), (1, u "java/lang/Object"), (0, u "<init>"), (0, u "()V"), (2, .long 9223372036854775807), (1, .class_ 12), (0, u "com/example/threadline/threadline/util/Saturating"), (2, u "add"), (0, u "(JJ)J")] 4

def k2m0 : Method := { name := "<init>", desc := "()V", sig := { parameters := [], returnType := none }, accessFlags := 2, code := none }
def k2c1 : Code := { maxStack := 6, maxLocals := 4, code := prog_92_method_2_code, exceptionTable := #[], attributes := #[] }
def k2m1 : Method := { name := "add", desc := "(JJ)J", sig := { parameters := [.long, .long], returnType := some .long }, accessFlags := 9, code := some k2c1 }
/-- com/example/threadline/threadline/util/Saturating -/
def k2 : Class := { plain "com/example/threadline/threadline/util/Saturating" (some 0) with
  accessFlags := 49
  interfaces := #[]
  cf := some (fileOf pool2 11 #[] #[{ accessFlags := 2, nameIndex := 5, descriptorIndex := 6, attributes := #[] }, { accessFlags := 9, nameIndex := 15, descriptorIndex := 16, attributes := #[] }] 49 2 #[] #[])
  fields := #[]
  methods := #[k2m0, k2m1]
  instanceTypes := #[]
  staticTypes := #[]
  resolved := Array.replicate 21 none
  statics := none }

def pool3 : Array CpInfo := pool [(1, u "java/lang/Cloneable"), (0, .class_ 1), (0, u "java/lang/Object"), (0, .class_ 3)] 3

/-- java/lang/Cloneable -/
def k3 : Class := { plain "java/lang/Cloneable" (some 0) with
  accessFlags := 1537
  interfaces := #[]
  cf := some (fileOf pool3 2 #[] #[] 1537 4 #[] #[])
  fields := #[]
  methods := #[]
  instanceTypes := #[]
  staticTypes := #[]
  resolved := Array.replicate 8 none
  statics := none }

def pool4 : Array CpInfo := pool [(1, u "java/io/Serializable"), (0, .class_ 1), (0, u "java/lang/Object"), (0, .class_ 3)] 3

/-- java/io/Serializable -/
def k4 : Class := { plain "java/io/Serializable" (some 0) with
  accessFlags := 1537
  interfaces := #[]
  cf := some (fileOf pool4 2 #[] #[] 1537 4 #[] #[])
  fields := #[]
  methods := #[]
  instanceTypes := #[]
  staticTypes := #[]
  resolved := Array.replicate 8 none
  statics := none }

/-- the primitive byte -/
def k5 : Class := { plain "byte" none with kind := .primitive 'B', accessFlags := 0x411 }
/-- [B -/
def k6 : Class := { plain "[B" (some 0) with kind := .array 5 .byte, interfaces := #[3, 4], accessFlags := 1041 }

/-- the primitive int -/
def k7 : Class := { plain "int" none with kind := .primitive 'I', accessFlags := 0x411 }
/-- [I -/
def k8 : Class := { plain "[I" (some 0) with kind := .array 7 .int, interfaces := #[3, 4], accessFlags := 1041 }

def heap : Heap := #[]
def classes : Array Class := #[k0, k1, k2, k3, k4, k5, k6, k7, k8]
def interned : List (Array UInt16 × Addr) := []
def slotsUsed : Nat := 0
def theMethod : MethodId := ⟨1, 1⟩
def args0 : Array Value := #[.long 5, .long 300, .int 7]
def aboutOver (below : List Frame) : State where
  vm := { classes := classes, interned := interned.toArray }
  heap := heap
  slotsUsed := slotsUsed
  threads := #[{ frames := .invoking theMethod args0 :: below }]
def below0 : List Frame := [.native { method := ⟨0, 0⟩, args := #[] }]
def about1 : State := aboutOver below0
def p0 : Program := .bare "" "" ""
def e0 : Env := launch0.env 0 0 0
theorem w_frames : about1.frames = Frame.invoking theMethod args0 :: below0 := rfl
set_option maxRecDepth 65536 in
theorem w_args : argsFit about1.vm theMethod args0 = true := by decide +kernel
set_option maxRecDepth 65536 in
theorem w_heap : heapFits about1 = true := by decide +kernel
set_option maxRecDepth 65536 in
theorem w_runnable : about1.curStatus? = some .runnable := by decide +kernel
set_option maxRecDepth 65536 in
theorem w_alone : about1.alone = true := by decide +kernel
set_option maxRecDepth 65536 in
theorem w_named : about1.methodNamed? x = some theMethod := by decide +kernel
set_option maxRecDepth 65536 in
theorem w_hears : about1.hears theMethod below0 = true := by decide +kernel
set_option maxRecDepth 65536 in
theorem w_ripe : about1.ripe theMethod args0 below0 = true := by decide +kernel
theorem w_running : about1.status = .running := rfl
set_option maxRecDepth 65536 in
theorem w_room : about1.hasRoom e0.platform room_1 = true :=
  launch0.hasRoom_least _ room_1 (by decide +kernel) (by decide +kernel) (by decide +kernel) (by decide +kernel) (by decide +kernel) (by decide +kernel)
theorem allAtoms_all (ts : List Jvm.Cond) (a : Array Jvm.Value) (st : Jvm.State) : (allAtoms ts).before a st = ts.all (fun c => c.before a st) := by
  induction ts with
  | nil => rfl
  | cons c t ih =>
    show (Jvm.Cond.and c (allAtoms t)).before a st = _
    rw [Jvm.Cond.before_and, ih, List.all_cons]
def words1 : List Jvm.Cond := Jvm.Cond.code x code maxLocals ret :: tables_1
/-- a 'code' word, met by the world's own term for the bytes: nothing is compared byte by byte -/
theorem code_word {y : MethodName} {bytes : ByteArray} {mx : Nat} {rt : Option FieldType} {a : Array Value} {s : State} {m : MethodId} {meth : Method} {c : Code} (h1 : s.methodNamed? y = some m) (h2 : s.vm.method? m = some meth) (h3 : meth.code = some c) (h4 : c.code = bytes)
    (h5 : (c.maxLocals == mx && c.exceptionTable.isEmpty && decide (c.maxStack ≤ mostOperands) && decide (meth.sig.returnType = rt) && !meth.locks && decide (parseMethodDescriptor y.desc = some meth.sig)) = true) : (Jvm.Cond.code y bytes mx rt).before a s = true := by
  simp only [Bool.and_eq_true, beq_iff_eq, Bool.not_eq_true', decide_eq_true_eq] at h5
  obtain ⟨⟨⟨⟨⟨g1, g2⟩, g3⟩, g4⟩, g5⟩, g6⟩ := h5
  simp [Cond.before, Cond.holds, Cond.value, h1, h2, h3, h4, g1, g2, g3, g4, g5, g6]
def isCode : Jvm.Cond → Bool
  | .code _ _ _ _ => true
  | _ => false
theorem all_split {L : List Jvm.Cond} {P : Jvm.Cond → Bool} (h1 : L.all (fun c => isCode c || P c) = true) (h2 : ∀ c ∈ L.filter isCode, P c = true) : L.all P = true := by
  refine List.all_eq_true.mpr fun c hc => ?_
  have h := List.all_eq_true.mp h1 c hc
  rcases Bool.eq_false_or_eq_true (isCode c) with hi | hi
  · exact h2 c (List.mem_filter.mpr ⟨hc, hi⟩)
  · simpa [hi] using h
set_option maxRecDepth 65536 in
theorem w_c0 : (Jvm.Cond.code x code maxLocals ret).before args0 about1 = true := code_word (m := ⟨1, 1⟩) (meth := k1m1) (c := k1c1) (by decide +kernel) rfl rfl rfl (by decide +kernel)
set_option maxRecDepth 65536 in
theorem w_c1 : (Jvm.Cond.code ({ cls := "com/example/threadline/threadline/util/Saturating", name := "add", desc := "(JJ)J" } : Jvm.MethodName) prog_92_method_2_code (4 : Nat) (Option.some Jvm.ClassFile.FieldType.long)).before args0 about1 = true := code_word (m := ⟨2, 1⟩) (meth := k2m1) (c := k2c1) (by decide +kernel) rfl rfl rfl (by decide +kernel)
def codes1 : List Jvm.Cond := [Jvm.Cond.code x code maxLocals ret, Jvm.Cond.code ({ cls := "com/example/threadline/threadline/util/Saturating", name := "add", desc := "(JJ)J" } : Jvm.MethodName) prog_92_method_2_code (4 : Nat) (Option.some Jvm.ClassFile.FieldType.long)]
set_option maxRecDepth 65536 in
theorem codes_eq : words1.filter isCode = codes1 := rfl
theorem w_codes : ∀ c ∈ words1.filter isCode, c.before args0 about1 = true := by
  rw [codes_eq]
  intro c hc
  simp only [codes1, List.mem_cons, List.not_mem_nil, or_false] at hc
  rcases hc with rfl | rfl
  · exact w_c0
  · exact w_c1
set_option maxRecDepth 65536 in
theorem w_t1 : words1.all (fun c => isCode c || c.before args0 about1) = true := by decide +kernel
theorem w_tables : (allAtoms (Jvm.Cond.code x code maxLocals ret :: tables_1)).before args0 about1 = true := by
  rw [allAtoms_all]
  show words1.all (fun c => c.before args0 about1) = true
  refine all_split ?_ w_codes
  rw [w_t1]
set_option maxRecDepth 65536 in
theorem w_case : (Jvm.Cond.and given_1 narrow_1).before args0 about1 = true := by decide +kernel
theorem w_applies : (headSpec (Jvm.Cond.code x code maxLocals ret :: tables_1) room_1).applies x e0.platform about1 = true :=
  (Spec.applies_iff w_frames).mpr ⟨w_running, w_runnable, w_alone, w_named, w_hears, w_ripe, w_room, w_tables⟩
theorem atStart : AtStart classFile x code maxLocals ret World_1 tables_1 room_1 Calls_1 rest_1 Pre_1 launch0 p0 e0 about1 theMethod args0 below0 :=
  ⟨lists_1, trivial, launch0.admits_env _ _ _, launch0.least_env, fairChoices_fair.cas, fairChoices_fair.clock, w_frames, w_args, w_heap, w_applies, trivial, trivial, w_case⟩
end start1
theorem witness_1 : WitnessClaimed_1 := ⟨start1.p0, start1.e0, start1.about1, start1.theMethod, start1.args0, start1.below0, start1.atStart⟩
end Jvm.Pilot.@@N@@
