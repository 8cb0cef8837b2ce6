import JvmDerived
import JvmDerived.Pilot.@@N@@Statement
import JvmDerived.Pilot.@@N@@Code
set_option linter.unusedVariables false
set_option linter.unusedSimpArgs false
namespace Jvm.Pilot.@@N@@
open Jvm Jvm.ClassFile Sem Op Lib Jvm.Free Jvm.Stand Jvm.LawKit Jvm.RoadKit Bundle Jvm.Pilot.@@N@@.Jvm.D
/-! from the state S the run comes to an end that QQ allows -/
def Goes (p : Program) (e : Env) (below : List Frame) (QQ : Outcome → State → Prop) (S : State) : Prop :=
  ∃ s₂ o, Steps p.tables e below S s₂ ∧ s₂.status = .running ∧ Ended s₂ below o ∧ QQ o s₂
theorem Goes.on {p : Program} {e : Env} {below : List Frame} {QQ : Outcome → State → Prop} {S S' : State} (h : ∀ t, Steps p.tables e below S' t → Steps p.tables e below S t) (g : Goes p e below QQ S') : Goes p e below QQ S := by
  obtain ⟨s₂, o, h1, h2⟩ := g
  exact ⟨s₂, o, h _ h1, h2⟩
theorem Goes.cast {p : Program} {e : Env} {below : List Frame} {QQ : Outcome → State → Prop} {T : State} {g g' : JFrame} (q : g = g') (k : Goes p e below QQ (T.setTop g')) : Goes p e below QQ (T.setTop g) := q ▸ k
def EndsQ (s : State) (Q : Option Value → Heap → List Loc → Prop) (kc ks : Nat) (o : Outcome) (U' : State) : Prop := ∃ v L, o = .returned v ∧ Q v U'.heap L ∧ FrameEnd s o U' L kc ks
/-- a result alone -/
def QP (x : Value) (h0 : Heap) (n0 : Nat) (v : Option Value) (h : Heap) (L : List Loc) : Prop := v = some x ∧ Fr n0 L ∧ h = h0
theorem own_enter {l : Launch} {y : MethodName} {bytes : ByteArray} {maxL : Nat} {rt : Option FieldType} {ws : List Jvm.Cond} {rm : Room} {as' : Array Value} {Q : Option Value → Heap → List Loc → Prop} {Z : State} {h0 : Heap} {kc ks : Nat} (hp : plainFor y = true)
    (body : ∀ (p : Program) (e : Env) (s : State) (m : MethodId) (below : List Frame) (meth : Method) (c : Code) (s₁ : State) (QQ : Outcome → State → Prop), (∀ o U', EndsQ s Q kc ks o U' → QQ o U') → p.tables.exec = Jvm.exec → c.code = bytes → c.maxLocals = maxL → s.vm.findClass y.cls = some m.cls → meth.name = y.name → meth.sig.returnType = rt → meth.locks = false → Z.Warmed39 s.vm → Stand p l e rm s m as' below meth c s₁ [] 0 0 → s₁.heap = h0 →
      Goes p e below QQ (s₁.setTop (entryFrame m as' maxL))) :
    MetFree l y (head1 (Jvm.Cond.code y bytes maxL rt :: ws) rm) (fun a U => a = as' ∧ Z.Warmed39 U.vm ∧ U.heap = h0) (fun _ _ _ _ _ => True) (fun _ U o U' => ∃ v L, o = .returned v ∧ Q v U'.heap L ∧ FrameEnd U o U' L kc ks) := by
  refine MetFree.of_bodySF hp hisR ?_
  intro p e s m args below meth c s₁ Bd hml0 hP hK
  obtain ⟨rfl, hZ, hh⟩ := hP
  exact body p e s m below meth c s₁ _ (fun o U' h => h) Bd.exec Bd.bytes hml0 (findClass_of_methodNamed Bd.named) (name_of_methodNamed Bd.named Bd.method).1 Bd.returns (BodyLoose.notSynchronized Bd) hZ (Stand.of_body Bd) (by rw [← hh, Bd.state]; rfl)
section Ret
variable {p : Program} {l : Launch} {e : Env} {R : Room} {s : State} {m : MethodId} {args : Array Value} {below : List Frame} {meth : Method} {c : Code} {T : State} {locs : List Loc} {cells slots kc ks : Nat} {QQ : Outcome → State → Prop} {Q : Option Value → Heap → List Loc → Prop}
theorem Goes.fin (X : Stand p l e R s m args below meth c T locs cells slots) (hlk : meth.locks = false) {v : Option Value} (hv : meth.sig.returnType = none → v = none) {g : JFrame}
    (step : ∀ fs : List Frame, (∀ (f : JFrame) (acts : List Action), f.method = m → f.locked = none → f.entered = [] → (doReturn e (T.setTop f) acts v).1 = T.setFrames fs) → Steps p.tables e below (T.setTop g) (T.setFrames fs))
    (hQQ : ∀ o U', EndsQ s Q kc ks o U' → QQ o U') (hq : Q v T.heap locs) (hc : cells ≤ kc) (hs : slots ≤ ks) : Goes p e below QQ (T.setTop g) := by
  obtain ⟨fs, hr, hrun, hended, hW, hsame⟩ := X.leave (v := v) hv hlk
  exact ⟨_, _, step fs hr, hrun, hended, hQQ _ _ ⟨v, locs, rfl, hq, ⟨v, rfl⟩, hW, hsame.mono hc hs⟩⟩
theorem Goes.rI (X : Stand p l e R s m args below meth c T locs cells slots) (hx : p.tables.exec = Jvm.exec) (hret : meth.sig.returnType = some .int) (hlk : meth.locks = false) {pc : Nat} {Ls : Array Slot} {z : Int32} {rest : List Value} (hd : decode c.code pc = .ok (.ireturn, 1))
    (hQQ : ∀ o U', EndsQ s Q kc ks o U' → QQ o U') (hq : Q (some (.int z)) T.heap locs) (hc : cells ≤ kc) (hs : slots ≤ ks) : Goes p e below QQ (T.setTop (mkF m pc Ls (.int z :: rest))) :=
  Goes.fin X hlk (v := some (.int z)) (fun h => by rw [hret] at h; cases h) (fun fs hr => retOut X hx hret rfl (Or.inl ⟨rfl, Or.inl rfl, z, rfl⟩) hd hr) hQQ hq hc hs
theorem Goes.rN (X : Stand p l e R s m args below meth c T locs cells slots) (hx : p.tables.exec = Jvm.exec) {t : FieldType} (hret : meth.sig.returnType = some t) (ht : t = .boolean ∨ t = .byte ∨ t = .char ∨ t = .short) (hlk : meth.locks = false) {pc : Nat} {Ls : Array Slot} {z : Int32} {rest : List Value} (hd : decode c.code pc = .ok (.ireturn, 1))
    (hQQ : ∀ o U', EndsQ s Q kc ks o U' → QQ o U') (hq : Q (some (.int (nar t z))) T.heap locs) (hc : cells ≤ kc) (hs : slots ≤ ks) : Goes p e below QQ (T.setTop (mkF m pc Ls (.int z :: rest))) :=
  Goes.fin X hlk (v := some (.int (nar t z))) (fun h => by rw [hret] at h; cases h) (fun fs hr => retN X hx hret ht hd hr) hQQ hq hc hs
theorem Goes.rJ (X : Stand p l e R s m args below meth c T locs cells slots) (hx : p.tables.exec = Jvm.exec) (hret : meth.sig.returnType = some .long) (hlk : meth.locks = false) {pc : Nat} {Ls : Array Slot} {z : Int64} {rest : List Value} (hd : decode c.code pc = .ok (.lreturn, 1))
    (hQQ : ∀ o U', EndsQ s Q kc ks o U' → QQ o U') (hq : Q (some (.long z)) T.heap locs) (hc : cells ≤ kc) (hs : slots ≤ ks) : Goes p e below QQ (T.setTop (mkF m pc Ls (.long z :: rest))) :=
  Goes.fin X hlk (v := some (.long z)) (fun h => by rw [hret] at h; cases h) (fun fs hr => retOut X hx hret rfl (Or.inr (Or.inl ⟨rfl, rfl, z, rfl⟩)) hd hr) hQQ hq hc hs
theorem Goes.rA (X : Stand p l e R s m args below meth c T locs cells slots) (hx : p.tables.exec = Jvm.exec) {t : FieldType} (hret : meth.sig.returnType = some t) (ht : t.isReference = true) {w : Value} (hw : w.isRef = true) (hlk : meth.locks = false) {pc : Nat} {Ls : Array Slot} {rest : List Value} (hd : decode c.code pc = .ok (.areturn, 1))
    (hQQ : ∀ o U', EndsQ s Q kc ks o U' → QQ o U') (hq : Q (some w) T.heap locs) (hc : cells ≤ kc) (hs : slots ≤ ks) : Goes p e below QQ (T.setTop (mkF m pc Ls (w :: rest))) :=
  Goes.fin X hlk (v := some w) (fun h => by rw [hret] at h; cases h) (fun fs hr => retOut X hx hret (by cases w <;> first | (cases hw; done) | (cases t <;> first | (cases ht; done) | rfl)) (Or.inr (Or.inr (Or.inr (Or.inr ⟨rfl, ht, hw⟩)))) hd hr) hQQ hq hc hs
theorem Goes.rV (X : Stand p l e R s m args below meth c T locs cells slots) (hx : p.tables.exec = Jvm.exec) (hret : meth.sig.returnType = none) (hlk : meth.locks = false) {pc : Nat} {Ls : Array Slot} (hd : decode c.code pc = .ok (.return_, 1))
    (hQQ : ∀ o U', EndsQ s Q kc ks o U' → QQ o U') (hq : Q none T.heap locs) (hc : cells ≤ kc) (hs : slots ≤ ks) : Goes p e below QQ (T.setTop (mkF m pc Ls [])) :=
  Goes.fin X hlk (v := none) (fun _ => rfl) (fun fs hr => X.returnOut hx hret hd hr) hQQ hq hc hs
end Ret
/-- what the law leaves: it returned 1, and nothing old was written -/
def QL (n0 : Nat) (v : Option Value) (h : Heap) (L : List Loc) : Prop := v = some (.int 1) ∧ Fr n0 L
theorem own_fldI {args : Array Value} {s : State} {tt : Term} {C n d : String} {a : Addr} {k : Int32} (ht : tt.eval args s none [] s = some (.ref a)) (h : (Jvm.Cond.eq (Term.field tt C n d) (Term.int k)).value args s none s [] = some true) : Fld s s.heap a C n d (.int k) := by
  obtain ⟨x1, y1, e1, e2, k1, k2⟩ := cmp_v (Or.inl h)
  cases (Term.int_eval k).symm.trans e2
  obtain ⟨z1, rfl⟩ := k2
  have q := gotT (Cond.eq_ints e1 (Term.int_eval k)) h
  subst q
  exact Fld.start ((fld_at ht).symm.trans e1)
theorem d1_0 : decode prog_12_method_5_code 0 = .ok (.aload_n 0, 1) := by decide +kernel
theorem d1_1 : decode prog_12_method_5_code 1 = .ok (.getstatic 3, 3) := by decide +kernel
theorem d1_4 : decode prog_12_method_5_code 4 = .ok (.if_acmp .eq 7, 3) := by decide +kernel
theorem d1_7 : decode prog_12_method_5_code 7 = .ok (.iconst 1, 1) := by decide +kernel
theorem d1_8 : decode prog_12_method_5_code 8 = .ok (.goto 4, 3) := by decide +kernel
theorem d1_11 : decode prog_12_method_5_code 11 = .ok (.iconst 0, 1) := by decide +kernel
theorem d1_12 : decode prog_12_method_5_code 12 = .ok (.ireturn, 1) := by decide +kernel
theorem pn_1 : plainFor (⟨"com/example/threadline/threadline/model/Failure$Kind", "signalled", "()Z"⟩ : MethodName) = true := plainFor_of_name (show plainName "com/example/threadline/threadline/model/Failure$Kind" = true by first | (simp [plainName, overriddenIn]; done) | decide +kernel)
theorem ef_rm1 (m : MethodId) (x0 : Addr) : entryFrame m #[(.ref x0)] 1 = mkF m 0 #[rv x0] [] := by first | (simp [entryFrame, mkF, argsToLocals, Value.category]; done) | rfl
def sigV (a1 : Addr) (xS : Addr) : Int32 := (if a1 = xS then (0 : Int32) else (1 : Int32))
set_option maxRecDepth 65536 in
set_option maxHeartbeats 40000000 in
theorem rm1 (l : Launch) (Z : State) (a0 : Array Value) (hw : ∀ d ∈ tables_1, d.before a0 Z = true) (ws : List Jvm.Cond) (a1 : Addr) (xS : Addr) (h0 : Heap) (n0 : Nat) (Z0 : n0 ≤ h0.size) (S_SILENT : Sta Z Z.heap "com/example/threadline/threadline/model/Failure$Kind" "SILENT" "Lcom/example/threadline/threadline/model/Failure$Kind;" (.ref xS)) (O_0 : Old Z n0 h0) :
    MetFree l (⟨"com/example/threadline/threadline/model/Failure$Kind", "signalled", "()Z"⟩ : MethodName) (head1 (Jvm.Cond.code (⟨"com/example/threadline/threadline/model/Failure$Kind", "signalled", "()Z"⟩ : MethodName) prog_12_method_5_code 1 (some .boolean) :: ws) ({ frames := 0, cells := 0, slots := 0, locals := 0 } : Room)) (fun a U => a = #[(.ref a1)] ∧ Z.Warmed39 U.vm ∧ U.heap = h0) (fun _ _ _ _ _ => True) (fun _ U o U' => ∃ v L, o = .returned v ∧ QP (.int (sigV a1 xS)) h0 n0 v U'.heap L ∧ FrameEnd U o U' L ({ frames := 0, cells := 0, slots := 0, locals := 0 } : Room).cells ({ frames := 0, cells := 0, slots := 0, locals := 0 } : Room).slots) := by
  refine own_enter pn_1 ?_
  intro p e s m below meth c s₁ QQ hQQ hx hby hml hown hnm hret hlk hZ X0 e0
  have hown : s.vm.findClass "com/example/threadline/threadline/model/Failure$Kind" = some m.cls := hown
  have hml : c.maxLocals = 1 := hml
  have hret : meth.sig.returnType = some .boolean := hret
  have N0 := Fr.nil n0
  have K0 := Keep.refl h0 []
  refine Goes.cast (ef_rm1 m a1) ?_
  show Goes p e below QQ (s₁.setTop (mkF m 0 #[rv a1] []))
  refine Goes.on (fun t k => XS.aloadN X0.here hx rfl (hb hby d1_0) rfl rfl k) ?_
  show Goes p e below QQ (s₁.setTop (mkF m 1 #[rv a1] [(.ref a1)]))
  obtain ⟨T1, X1, e1, st1⟩ := getS2 X0 hx hZ hown (host := "") (Or.inl (hw _ (List.mem_of_getElem? (i := 9) rfl))) Via.refl e0 (S_SILENT.ext O_0.2) (g := (mkF m 1 #[rv a1] [(.ref a1)])) rfl (hb hby d1_1)
  refine Goes.on (fun t k => st1 t k) ?_
  show Goes p e below QQ (T1.setTop (mkF m 4 #[rv a1] [(.ref xS), (.ref a1)]))
  by_cases hb2 : a1 = xS
  · refine Goes.on (fun t k => Jvm.RoadKit.acmp (g := (mkF m 4 #[rv a1] [(.ref xS), (.ref a1)])) X1 hx rfl rfl rfl (pc0 := 4) (pc' := 11) (same := true) rfl (hb hby d1_4) rfl (decide_eq_true (congrArg Value.ref hb2)) (by decide) (by decide) k) ?_
    show Goes p e below QQ (T1.setTop (mkF m 11 #[rv a1] []))
    refine Goes.on (fun t k => XS.iconst X1.here hx rfl (hb hby d1_11) k) ?_
    show Goes p e below QQ (T1.setTop (mkF m 12 #[rv a1] [(.int 0)]))
    have hv : nar .boolean (0 : Int32) = (0 : Int32) := rfl
    exact Goes.rN X1 hx (t := .boolean) hret (by simp) hlk (hb hby d1_12) hQQ ⟨congrArg (fun z => some (Value.int z)) (hv.trans (((if_pos hb2).trans rfl) : (sigV a1 xS) = (0 : Int32)).symm), N0, e1⟩ (by decide) (by decide)
  · refine Goes.on (fun t k => Jvm.RoadKit.acmp (g := (mkF m 4 #[rv a1] [(.ref xS), (.ref a1)])) X1 hx rfl rfl rfl (pc0 := 4) (pc' := 7) (same := false) rfl (hb hby d1_4) rfl (decide_eq_false fun q => hb2 (Value.ref.inj q)) (by decide) (by decide) k) ?_
    show Goes p e below QQ (T1.setTop (mkF m 7 #[rv a1] []))
    refine Goes.on (fun t k => XS.iconst X1.here hx rfl (hb hby d1_7) k) ?_
    show Goes p e below QQ (T1.setTop (mkF m 8 #[rv a1] [(.int 1)]))
    refine Goes.on (fun t k => XS.goto X1.here hx rfl (pc0 := 8) (pc' := 12) rfl (hb hby d1_8) (by decide) (by decide) k) ?_
    show Goes p e below QQ (T1.setTop (mkF m 12 #[rv a1] [(.int 1)]))
    have hv : nar .boolean (1 : Int32) = (1 : Int32) := rfl
    exact Goes.rN X1 hx (t := .boolean) hret (by simp) hlk (hb hby d1_12) hQQ ⟨congrArg (fun z => some (Value.int z)) (hv.trans (((if_neg hb2).trans rfl) : (sigV a1 xS) = (1 : Int32)).symm), N0, e1⟩ (by decide) (by decide)
theorem pn_0 : plainFor x = true := plainFor_of_name (show plainName "com/example/threadline/threadline/model/KindSignalledPinLaw" = true by first | (simp [plainName, overriddenIn]; done) | decide +kernel)
theorem ef_rm0 (m : MethodId) (x0 : Int32) : entryFrame m #[(.int x0)] maxLocals = mkF m 0 #[iv x0, .unset, .unset, .unset] [] := by first | (simp [entryFrame, mkF, argsToLocals, Value.category, maxLocals]; done) | rfl
theorem pd_0 : parseMethodDescriptor "()Z" = some ⟨[], some .boolean⟩ := by decide +kernel
def lawF (p1 : Int32) (xS xT xK : Addr) : Int32 := (if ((p1 &&& (2147483647 : Int32)) % (3 : Int32)) = (0 : Int32) then (if (sigV xS xS) = (0 : Int32) then (1 : Int32) else (0 : Int32)) else (if ((p1 &&& (2147483647 : Int32)) % (3 : Int32)) = (1 : Int32) then (if (sigV xT xS) = (1 : Int32) then (1 : Int32) else (0 : Int32)) else (if (sigV xK xS) = (1 : Int32) then (1 : Int32) else (0 : Int32))))
theorem lawT (p1 : Int32) (xS xT xK : Addr) (ne_T : ¬ xT = xS) (ne_K : ¬ xK = xS) : lawF p1 xS xT xK = 1 := by
  unfold lawF sigV
  simp only [if_neg ne_T, if_neg ne_K, if_true, ite_self]
  try (repeat' split)
  all_goals first | rfl | contradiction
set_option maxRecDepth 65536 in
set_option maxHeartbeats 40000000 in
theorem rm0 (l : Launch) (Z : State) (a0 : Array Value) (hw : ∀ d ∈ tables_1, d.before a0 Z = true) (ws : List Jvm.Cond) (p1 : Int32) (xS xT xK : Addr) (h0 : Heap) (n0 : Nat) (Z0 : n0 ≤ h0.size) (S_SILENT : Sta Z Z.heap "com/example/threadline/threadline/model/Failure$Kind" "SILENT" "Lcom/example/threadline/threadline/model/Failure$Kind;" (.ref xS)) (E_xS : Exa Z h0 xS "com/example/threadline/threadline/model/Failure$Kind") (S_STOP : Sta Z Z.heap "com/example/threadline/threadline/model/Failure$Kind" "STOP" "Lcom/example/threadline/threadline/model/Failure$Kind;" (.ref xT)) (E_xT : Exa Z h0 xT "com/example/threadline/threadline/model/Failure$Kind") (S_KILL : Sta Z Z.heap "com/example/threadline/threadline/model/Failure$Kind" "KILL" "Lcom/example/threadline/threadline/model/Failure$Kind;" (.ref xK)) (E_xK : Exa Z h0 xK "com/example/threadline/threadline/model/Failure$Kind") (O_0 : Old Z n0 h0) (ne_T : ¬ xT = xS) (ne_K : ¬ xK = xS) :
    MetFree l x (head1 (Jvm.Cond.code x code maxLocals ret :: ws) room_1) (fun a U => a = #[(.int p1)] ∧ Z.Warmed39 U.vm ∧ U.heap = h0) (fun _ _ _ _ _ => True) (fun _ U o U' => ∃ v L, o = .returned v ∧ QL n0 v U'.heap L ∧ FrameEnd U o U' L 0 0) := by
  refine own_enter pn_0 ?_
  intro p e s m below meth c s₁ QQ hQQ hx hby hml hown hnm hret hlk hZ X0 e0
  have hown : s.vm.findClass "com/example/threadline/threadline/model/KindSignalledPinLaw" = some m.cls := hown
  have hml : c.maxLocals = 4 := hml
  have hret : meth.sig.returnType = some .boolean := hret
  have N0 := Fr.nil n0
  have K0 := Keep.refl h0 []
  refine Goes.cast (ef_rm0 m p1) ?_
  show Goes p e below QQ (s₁.setTop (mkF m 0 #[iv p1, .unset, .unset, .unset] []))
  refine Goes.on (fun t k => XS.iloadN X0.here hx rfl (hb hby at_0) rfl k) ?_
  show Goes p e below QQ (s₁.setTop (mkF m 1 #[iv p1, .unset, .unset, .unset] [(.int p1)]))
  refine Goes.on (fun t k => X0.ldcInt hx hown (mvT hZ (hw _ (List.mem_of_getElem? (i := 0) rfl))) (g := (mkF m 1 #[iv p1, .unset, .unset, .unset] [(.int p1)])) rfl (hb hby at_1) t k) ?_
  show Goes p e below QQ (s₁.setTop (mkF m 3 #[iv p1, .unset, .unset, .unset] [(.int 2147483647), (.int p1)]))
  refine Goes.on (fun t k => XS.iand X0.here hx rfl (hb hby at_3) rfl k) ?_
  show Goes p e below QQ (s₁.setTop (mkF m 4 #[iv p1, .unset, .unset, .unset] [(.int (p1 &&& (2147483647 : Int32)))]))
  refine Goes.on (fun t k => XS.iconst X0.here hx rfl (hb hby at_4) k) ?_
  show Goes p e below QQ (s₁.setTop (mkF m 5 #[iv p1, .unset, .unset, .unset] [(.int 3), (.int (p1 &&& (2147483647 : Int32)))]))
  refine Goes.on (fun t k => iremM X0 hx rfl (hb hby at_5) rfl (by decide) k) ?_
  show Goes p e below QQ (s₁.setTop (mkF m 6 #[iv p1, .unset, .unset, .unset] [(.int ((p1 &&& (2147483647 : Int32)) % (3 : Int32)))]))
  refine Goes.on (fun t k => XS.istoreN X0.here hx rfl (hb hby at_6) rfl (l' := #[iv p1, iv ((p1 &&& (2147483647 : Int32)) % (3 : Int32)), .unset, .unset]) rfl k) ?_
  show Goes p e below QQ (s₁.setTop (mkF m 7 #[iv p1, iv ((p1 &&& (2147483647 : Int32)) % (3 : Int32)), .unset, .unset] []))
  refine Goes.on (fun t k => XS.iloadN X0.here hx rfl (hb hby at_7) rfl k) ?_
  show Goes p e below QQ (s₁.setTop (mkF m 8 #[iv p1, iv ((p1 &&& (2147483647 : Int32)) % (3 : Int32)), .unset, .unset] [(.int ((p1 &&& (2147483647 : Int32)) % (3 : Int32)))]))
  by_cases hb1 : ((p1 &&& (2147483647 : Int32)) % (3 : Int32)) = (0 : Int32)
  · refine Goes.on (fun t k => XS.ifNo X0.here hx rfl (hb hby at_8) rfl ((if0 _ _).trans (teq hb1).2) k) ?_
    show Goes p e below QQ (s₁.setTop (mkF m 11 #[iv p1, iv ((p1 &&& (2147483647 : Int32)) % (3 : Int32)), .unset, .unset] []))
    obtain ⟨T2, X2, e2, st2⟩ := getS2 X0 hx hZ hown (host := "") (Or.inl (hw _ (List.mem_of_getElem? (i := 1) rfl))) Via.refl e0 (S_SILENT.ext O_0.2) (g := (mkF m 11 #[iv p1, iv ((p1 &&& (2147483647 : Int32)) % (3 : Int32)), .unset, .unset] [])) rfl (hb hby at_11)
    refine Goes.on (fun t k => st2 t k) ?_
    show Goes p e below QQ (T2.setTop (mkF m 14 #[iv p1, iv ((p1 &&& (2147483647 : Int32)) % (3 : Int32)), .unset, .unset] [(.ref xS)]))
    refine Goes.on (fun t k => XS.astoreN X2.here hx rfl (hb hby at_14) rfl rfl (l' := #[iv p1, iv ((p1 &&& (2147483647 : Int32)) % (3 : Int32)), rv xS, .unset]) rfl k) ?_
    show Goes p e below QQ (T2.setTop (mkF m 15 #[iv p1, iv ((p1 &&& (2147483647 : Int32)) % (3 : Int32)), rv xS, .unset] []))
    refine Goes.on (fun t k => XS.iconst X2.here hx rfl (hb hby at_15) k) ?_
    show Goes p e below QQ (T2.setTop (mkF m 16 #[iv p1, iv ((p1 &&& (2147483647 : Int32)) % (3 : Int32)), rv xS, .unset] [(.int 0)]))
    refine Goes.on (fun t k => XS.istoreN X2.here hx rfl (hb hby at_16) rfl (l' := #[iv p1, iv ((p1 &&& (2147483647 : Int32)) % (3 : Int32)), rv xS, iv 0]) rfl k) ?_
    show Goes p e below QQ (T2.setTop (mkF m 17 #[iv p1, iv ((p1 &&& (2147483647 : Int32)) % (3 : Int32)), rv xS, iv 0] []))
    refine Goes.on (fun t k => XS.goto X2.here hx rfl (pc0 := 17) (pc' := 40) rfl (hb hby at_17) (by decide) (by decide) k) ?_
    show Goes p e below QQ (T2.setTop (mkF m 40 #[iv p1, iv ((p1 &&& (2147483647 : Int32)) % (3 : Int32)), rv xS, iv 0] []))
    refine Goes.on (fun t k => XS.aloadN X2.here hx rfl (hb hby at_40) rfl rfl k) ?_
    show Goes p e below QQ (T2.setTop (mkF m 41 #[iv p1, iv ((p1 &&& (2147483647 : Int32)) % (3 : Int32)), rv xS, iv 0] [(.ref xS)]))
    obtain ⟨cq3, kq3, q3a, q3b, q3c⟩ := isOf hZ e2 E_xS
    obtain ⟨_, _, ⟨T3, L3, k3, n3⟩, -, X3, ⟨Lc3, hQ3, l3, y3, z3⟩, st3⟩ := X2.virtualBack hx (y := (⟨"com/example/threadline/threadline/model/Failure$Kind", "signalled", "()Z"⟩ : MethodName)) (z := (⟨"com/example/threadline/threadline/model/Failure$Kind", "signalled", "()Z"⟩ : MethodName)) hown (mvT hZ (hw _ (List.mem_of_getElem? (i := 4) rfl))) (mvT hZ (hw _ (List.mem_of_getElem? (i := 5) rfl))) (notFace_of_selects (args := #[]) (mvT hZ (hw _ (List.mem_of_getElem? (i := 7) rfl)))) (mvT hZ (hw _ (List.mem_of_getElem? (i := 7) rfl))) (mvT hZ (hw _ (List.mem_of_getElem? (i := 6) rfl))) (by decide) (backOf (W := 0) (rm1 l Z a0 hw [] xS xS h0 n0 (Nat.le_trans Z0 K0.1) S_SILENT O_0) hZ (hw _ (List.mem_of_getElem? (i := 8) rfl)) (hw _ (List.mem_of_getElem? (i := 2) rfl)) (by decide) (by decide)) q3a q3c (g := (mkF m 41 #[iv p1, iv ((p1 &&& (2147483647 : Int32)) % (3 : Int32)), rv xS, iv 0] [(.ref xS)])) rfl (by rw [hml]; rfl) (Steps.refl _) (argsL := []) (rest := []) (lenOf pd_0 rfl) rfl (by show 2 * 0 + _ ≤ _; exact Nat.le_of_eq rfl) (hb hby at_41) (fun _ _ => ⟨rfl, e2, (by decide : 0 + 0 ≤ _), (by decide : 0 + 0 ≤ _)⟩)
    dsimp only [Pt.U, Pt.locs, Pt.cells, Pt.slots] at X3 l3 y3 z3 st3 hQ3
    subst l3 y3 z3
    obtain ⟨rfl, M3, e3⟩ := hQ3
    have N3 := Fr.app N0 M3
    refine Goes.on (fun t k => st3.trans k) ?_
    show Goes p e below QQ (T3.setTop (mkF m 44 #[iv p1, iv ((p1 &&& (2147483647 : Int32)) % (3 : Int32)), rv xS, iv 0] [(.int (sigV xS xS))]))
    refine Goes.on (fun t k => XS.iloadN X3.here hx rfl (hb hby at_44) rfl k) ?_
    show Goes p e below QQ (T3.setTop (mkF m 45 #[iv p1, iv ((p1 &&& (2147483647 : Int32)) % (3 : Int32)), rv xS, iv 0] [(.int 0), (.int (sigV xS xS))]))
    by_cases hb4 : (sigV xS xS) = (0 : Int32)
    · refine Goes.on (fun t k => XS.icmpNo X3.here hx rfl (hb hby at_45) rfl (teq hb4).2 k) ?_
      show Goes p e below QQ (T3.setTop (mkF m 48 #[iv p1, iv ((p1 &&& (2147483647 : Int32)) % (3 : Int32)), rv xS, iv 0] []))
      refine Goes.on (fun t k => XS.iconst X3.here hx rfl (hb hby at_48) k) ?_
      show Goes p e below QQ (T3.setTop (mkF m 49 #[iv p1, iv ((p1 &&& (2147483647 : Int32)) % (3 : Int32)), rv xS, iv 0] [(.int 1)]))
      refine Goes.on (fun t k => XS.goto X3.here hx rfl (pc0 := 49) (pc' := 53) rfl (hb hby at_49) (by decide) (by decide) k) ?_
      show Goes p e below QQ (T3.setTop (mkF m 53 #[iv p1, iv ((p1 &&& (2147483647 : Int32)) % (3 : Int32)), rv xS, iv 0] [(.int 1)]))
      exact Goes.rN X3 hx (t := .boolean) hret (by simp) hlk (hb hby at_53) hQQ ⟨rfl, N3⟩ (by decide) (by decide)
    · refine Goes.on (fun t k => XS.icmpYes X3.here hx rfl (pc0 := 45) (pc' := 52) rfl (hb hby at_45) rfl (feq hb4).2 (by decide) (by decide) k) ?_
      show Goes p e below QQ (T3.setTop (mkF m 52 #[iv p1, iv ((p1 &&& (2147483647 : Int32)) % (3 : Int32)), rv xS, iv 0] []))
      refine Goes.on (fun t k => XS.iconst X3.here hx rfl (hb hby at_52) k) ?_
      show Goes p e below QQ (T3.setTop (mkF m 53 #[iv p1, iv ((p1 &&& (2147483647 : Int32)) % (3 : Int32)), rv xS, iv 0] [(.int 0)]))
      exact absurd ((((if_pos hb1).trans ((if_neg hb4).trans rfl)) : lawF p1 xS xT xK = (0 : Int32)).symm.trans (lawT p1 xS xT xK ne_T ne_K)) (by decide)
  · refine Goes.on (fun t k => XS.ifYes X0.here hx rfl (pc0 := 8) (pc' := 20) rfl (hb hby at_8) rfl ((if0 _ _).trans (feq hb1).2) (by decide) (by decide) k) ?_
    show Goes p e below QQ (s₁.setTop (mkF m 20 #[iv p1, iv ((p1 &&& (2147483647 : Int32)) % (3 : Int32)), .unset, .unset] []))
    refine Goes.on (fun t k => XS.iloadN X0.here hx rfl (hb hby at_20) rfl k) ?_
    show Goes p e below QQ (s₁.setTop (mkF m 21 #[iv p1, iv ((p1 &&& (2147483647 : Int32)) % (3 : Int32)), .unset, .unset] [(.int ((p1 &&& (2147483647 : Int32)) % (3 : Int32)))]))
    refine Goes.on (fun t k => XS.iconst X0.here hx rfl (hb hby at_21) k) ?_
    show Goes p e below QQ (s₁.setTop (mkF m 22 #[iv p1, iv ((p1 &&& (2147483647 : Int32)) % (3 : Int32)), .unset, .unset] [(.int 1), (.int ((p1 &&& (2147483647 : Int32)) % (3 : Int32)))]))
    by_cases hb5 : ((p1 &&& (2147483647 : Int32)) % (3 : Int32)) = (1 : Int32)
    · refine Goes.on (fun t k => XS.icmpNo X0.here hx rfl (hb hby at_22) rfl (teq hb5).2 k) ?_
      show Goes p e below QQ (s₁.setTop (mkF m 25 #[iv p1, iv ((p1 &&& (2147483647 : Int32)) % (3 : Int32)), .unset, .unset] []))
      obtain ⟨T6, X6, e6, st6⟩ := getS2 X0 hx hZ hown (host := "") (Or.inl (hw _ (List.mem_of_getElem? (i := 12) rfl))) Via.refl e0 (S_STOP.ext O_0.2) (g := (mkF m 25 #[iv p1, iv ((p1 &&& (2147483647 : Int32)) % (3 : Int32)), .unset, .unset] [])) rfl (hb hby at_25)
      refine Goes.on (fun t k => st6 t k) ?_
      show Goes p e below QQ (T6.setTop (mkF m 28 #[iv p1, iv ((p1 &&& (2147483647 : Int32)) % (3 : Int32)), .unset, .unset] [(.ref xT)]))
      refine Goes.on (fun t k => XS.astoreN X6.here hx rfl (hb hby at_28) rfl rfl (l' := #[iv p1, iv ((p1 &&& (2147483647 : Int32)) % (3 : Int32)), rv xT, .unset]) rfl k) ?_
      show Goes p e below QQ (T6.setTop (mkF m 29 #[iv p1, iv ((p1 &&& (2147483647 : Int32)) % (3 : Int32)), rv xT, .unset] []))
      refine Goes.on (fun t k => XS.iconst X6.here hx rfl (hb hby at_29) k) ?_
      show Goes p e below QQ (T6.setTop (mkF m 30 #[iv p1, iv ((p1 &&& (2147483647 : Int32)) % (3 : Int32)), rv xT, .unset] [(.int 1)]))
      refine Goes.on (fun t k => XS.istoreN X6.here hx rfl (hb hby at_30) rfl (l' := #[iv p1, iv ((p1 &&& (2147483647 : Int32)) % (3 : Int32)), rv xT, iv 1]) rfl k) ?_
      show Goes p e below QQ (T6.setTop (mkF m 31 #[iv p1, iv ((p1 &&& (2147483647 : Int32)) % (3 : Int32)), rv xT, iv 1] []))
      refine Goes.on (fun t k => XS.goto X6.here hx rfl (pc0 := 31) (pc' := 40) rfl (hb hby at_31) (by decide) (by decide) k) ?_
      show Goes p e below QQ (T6.setTop (mkF m 40 #[iv p1, iv ((p1 &&& (2147483647 : Int32)) % (3 : Int32)), rv xT, iv 1] []))
      refine Goes.on (fun t k => XS.aloadN X6.here hx rfl (hb hby at_40) rfl rfl k) ?_
      show Goes p e below QQ (T6.setTop (mkF m 41 #[iv p1, iv ((p1 &&& (2147483647 : Int32)) % (3 : Int32)), rv xT, iv 1] [(.ref xT)]))
      obtain ⟨cq7, kq7, q7a, q7b, q7c⟩ := isOf hZ e6 E_xT
      obtain ⟨_, _, ⟨T7, L7, k7, n7⟩, -, X7, ⟨Lc7, hQ7, l7, y7, z7⟩, st7⟩ := X6.virtualBack hx (y := (⟨"com/example/threadline/threadline/model/Failure$Kind", "signalled", "()Z"⟩ : MethodName)) (z := (⟨"com/example/threadline/threadline/model/Failure$Kind", "signalled", "()Z"⟩ : MethodName)) hown (mvT hZ (hw _ (List.mem_of_getElem? (i := 4) rfl))) (mvT hZ (hw _ (List.mem_of_getElem? (i := 5) rfl))) (notFace_of_selects (args := #[]) (mvT hZ (hw _ (List.mem_of_getElem? (i := 7) rfl)))) (mvT hZ (hw _ (List.mem_of_getElem? (i := 7) rfl))) (mvT hZ (hw _ (List.mem_of_getElem? (i := 6) rfl))) (by decide) (backOf (W := 0) (rm1 l Z a0 hw [] xT xS h0 n0 (Nat.le_trans Z0 K0.1) S_SILENT O_0) hZ (hw _ (List.mem_of_getElem? (i := 8) rfl)) (hw _ (List.mem_of_getElem? (i := 2) rfl)) (by decide) (by decide)) q7a q7c (g := (mkF m 41 #[iv p1, iv ((p1 &&& (2147483647 : Int32)) % (3 : Int32)), rv xT, iv 1] [(.ref xT)])) rfl (by rw [hml]; rfl) (Steps.refl _) (argsL := []) (rest := []) (lenOf pd_0 rfl) rfl (by show 2 * 0 + _ ≤ _; exact Nat.le_of_eq rfl) (hb hby at_41) (fun _ _ => ⟨rfl, e6, (by decide : 0 + 0 ≤ _), (by decide : 0 + 0 ≤ _)⟩)
      dsimp only [Pt.U, Pt.locs, Pt.cells, Pt.slots] at X7 l7 y7 z7 st7 hQ7
      subst l7 y7 z7
      obtain ⟨rfl, M7, e7⟩ := hQ7
      have N7 := Fr.app N0 M7
      refine Goes.on (fun t k => st7.trans k) ?_
      show Goes p e below QQ (T7.setTop (mkF m 44 #[iv p1, iv ((p1 &&& (2147483647 : Int32)) % (3 : Int32)), rv xT, iv 1] [(.int (sigV xT xS))]))
      refine Goes.on (fun t k => XS.iloadN X7.here hx rfl (hb hby at_44) rfl k) ?_
      show Goes p e below QQ (T7.setTop (mkF m 45 #[iv p1, iv ((p1 &&& (2147483647 : Int32)) % (3 : Int32)), rv xT, iv 1] [(.int 1), (.int (sigV xT xS))]))
      by_cases hb8 : (sigV xT xS) = (1 : Int32)
      · refine Goes.on (fun t k => XS.icmpNo X7.here hx rfl (hb hby at_45) rfl (teq hb8).2 k) ?_
        show Goes p e below QQ (T7.setTop (mkF m 48 #[iv p1, iv ((p1 &&& (2147483647 : Int32)) % (3 : Int32)), rv xT, iv 1] []))
        refine Goes.on (fun t k => XS.iconst X7.here hx rfl (hb hby at_48) k) ?_
        show Goes p e below QQ (T7.setTop (mkF m 49 #[iv p1, iv ((p1 &&& (2147483647 : Int32)) % (3 : Int32)), rv xT, iv 1] [(.int 1)]))
        refine Goes.on (fun t k => XS.goto X7.here hx rfl (pc0 := 49) (pc' := 53) rfl (hb hby at_49) (by decide) (by decide) k) ?_
        show Goes p e below QQ (T7.setTop (mkF m 53 #[iv p1, iv ((p1 &&& (2147483647 : Int32)) % (3 : Int32)), rv xT, iv 1] [(.int 1)]))
        exact Goes.rN X7 hx (t := .boolean) hret (by simp) hlk (hb hby at_53) hQQ ⟨rfl, N7⟩ (by decide) (by decide)
      · refine Goes.on (fun t k => XS.icmpYes X7.here hx rfl (pc0 := 45) (pc' := 52) rfl (hb hby at_45) rfl (feq hb8).2 (by decide) (by decide) k) ?_
        show Goes p e below QQ (T7.setTop (mkF m 52 #[iv p1, iv ((p1 &&& (2147483647 : Int32)) % (3 : Int32)), rv xT, iv 1] []))
        refine Goes.on (fun t k => XS.iconst X7.here hx rfl (hb hby at_52) k) ?_
        show Goes p e below QQ (T7.setTop (mkF m 53 #[iv p1, iv ((p1 &&& (2147483647 : Int32)) % (3 : Int32)), rv xT, iv 1] [(.int 0)]))
        exact absurd ((((if_neg hb1).trans ((if_pos hb5).trans ((if_neg hb8).trans rfl))) : lawF p1 xS xT xK = (0 : Int32)).symm.trans (lawT p1 xS xT xK ne_T ne_K)) (by decide)
    · refine Goes.on (fun t k => XS.icmpYes X0.here hx rfl (pc0 := 22) (pc' := 34) rfl (hb hby at_22) rfl (feq hb5).2 (by decide) (by decide) k) ?_
      show Goes p e below QQ (s₁.setTop (mkF m 34 #[iv p1, iv ((p1 &&& (2147483647 : Int32)) % (3 : Int32)), .unset, .unset] []))
      obtain ⟨T9, X9, e9, st9⟩ := getS2 X0 hx hZ hown (host := "") (Or.inl (hw _ (List.mem_of_getElem? (i := 10) rfl))) Via.refl e0 (S_KILL.ext O_0.2) (g := (mkF m 34 #[iv p1, iv ((p1 &&& (2147483647 : Int32)) % (3 : Int32)), .unset, .unset] [])) rfl (hb hby at_34)
      refine Goes.on (fun t k => st9 t k) ?_
      show Goes p e below QQ (T9.setTop (mkF m 37 #[iv p1, iv ((p1 &&& (2147483647 : Int32)) % (3 : Int32)), .unset, .unset] [(.ref xK)]))
      refine Goes.on (fun t k => XS.astoreN X9.here hx rfl (hb hby at_37) rfl rfl (l' := #[iv p1, iv ((p1 &&& (2147483647 : Int32)) % (3 : Int32)), rv xK, .unset]) rfl k) ?_
      show Goes p e below QQ (T9.setTop (mkF m 38 #[iv p1, iv ((p1 &&& (2147483647 : Int32)) % (3 : Int32)), rv xK, .unset] []))
      refine Goes.on (fun t k => XS.iconst X9.here hx rfl (hb hby at_38) k) ?_
      show Goes p e below QQ (T9.setTop (mkF m 39 #[iv p1, iv ((p1 &&& (2147483647 : Int32)) % (3 : Int32)), rv xK, .unset] [(.int 1)]))
      refine Goes.on (fun t k => XS.istoreN X9.here hx rfl (hb hby at_39) rfl (l' := #[iv p1, iv ((p1 &&& (2147483647 : Int32)) % (3 : Int32)), rv xK, iv 1]) rfl k) ?_
      show Goes p e below QQ (T9.setTop (mkF m 40 #[iv p1, iv ((p1 &&& (2147483647 : Int32)) % (3 : Int32)), rv xK, iv 1] []))
      refine Goes.on (fun t k => XS.aloadN X9.here hx rfl (hb hby at_40) rfl rfl k) ?_
      show Goes p e below QQ (T9.setTop (mkF m 41 #[iv p1, iv ((p1 &&& (2147483647 : Int32)) % (3 : Int32)), rv xK, iv 1] [(.ref xK)]))
      obtain ⟨cq10, kq10, q10a, q10b, q10c⟩ := isOf hZ e9 E_xK
      obtain ⟨_, _, ⟨T10, L10, k10, n10⟩, -, X10, ⟨Lc10, hQ10, l10, y10, z10⟩, st10⟩ := X9.virtualBack hx (y := (⟨"com/example/threadline/threadline/model/Failure$Kind", "signalled", "()Z"⟩ : MethodName)) (z := (⟨"com/example/threadline/threadline/model/Failure$Kind", "signalled", "()Z"⟩ : MethodName)) hown (mvT hZ (hw _ (List.mem_of_getElem? (i := 4) rfl))) (mvT hZ (hw _ (List.mem_of_getElem? (i := 5) rfl))) (notFace_of_selects (args := #[]) (mvT hZ (hw _ (List.mem_of_getElem? (i := 7) rfl)))) (mvT hZ (hw _ (List.mem_of_getElem? (i := 7) rfl))) (mvT hZ (hw _ (List.mem_of_getElem? (i := 6) rfl))) (by decide) (backOf (W := 0) (rm1 l Z a0 hw [] xK xS h0 n0 (Nat.le_trans Z0 K0.1) S_SILENT O_0) hZ (hw _ (List.mem_of_getElem? (i := 8) rfl)) (hw _ (List.mem_of_getElem? (i := 2) rfl)) (by decide) (by decide)) q10a q10c (g := (mkF m 41 #[iv p1, iv ((p1 &&& (2147483647 : Int32)) % (3 : Int32)), rv xK, iv 1] [(.ref xK)])) rfl (by rw [hml]; rfl) (Steps.refl _) (argsL := []) (rest := []) (lenOf pd_0 rfl) rfl (by show 2 * 0 + _ ≤ _; exact Nat.le_of_eq rfl) (hb hby at_41) (fun _ _ => ⟨rfl, e9, (by decide : 0 + 0 ≤ _), (by decide : 0 + 0 ≤ _)⟩)
      dsimp only [Pt.U, Pt.locs, Pt.cells, Pt.slots] at X10 l10 y10 z10 st10 hQ10
      subst l10 y10 z10
      obtain ⟨rfl, M10, e10⟩ := hQ10
      have N10 := Fr.app N0 M10
      refine Goes.on (fun t k => st10.trans k) ?_
      show Goes p e below QQ (T10.setTop (mkF m 44 #[iv p1, iv ((p1 &&& (2147483647 : Int32)) % (3 : Int32)), rv xK, iv 1] [(.int (sigV xK xS))]))
      refine Goes.on (fun t k => XS.iloadN X10.here hx rfl (hb hby at_44) rfl k) ?_
      show Goes p e below QQ (T10.setTop (mkF m 45 #[iv p1, iv ((p1 &&& (2147483647 : Int32)) % (3 : Int32)), rv xK, iv 1] [(.int 1), (.int (sigV xK xS))]))
      by_cases hb11 : (sigV xK xS) = (1 : Int32)
      · refine Goes.on (fun t k => XS.icmpNo X10.here hx rfl (hb hby at_45) rfl (teq hb11).2 k) ?_
        show Goes p e below QQ (T10.setTop (mkF m 48 #[iv p1, iv ((p1 &&& (2147483647 : Int32)) % (3 : Int32)), rv xK, iv 1] []))
        refine Goes.on (fun t k => XS.iconst X10.here hx rfl (hb hby at_48) k) ?_
        show Goes p e below QQ (T10.setTop (mkF m 49 #[iv p1, iv ((p1 &&& (2147483647 : Int32)) % (3 : Int32)), rv xK, iv 1] [(.int 1)]))
        refine Goes.on (fun t k => XS.goto X10.here hx rfl (pc0 := 49) (pc' := 53) rfl (hb hby at_49) (by decide) (by decide) k) ?_
        show Goes p e below QQ (T10.setTop (mkF m 53 #[iv p1, iv ((p1 &&& (2147483647 : Int32)) % (3 : Int32)), rv xK, iv 1] [(.int 1)]))
        exact Goes.rN X10 hx (t := .boolean) hret (by simp) hlk (hb hby at_53) hQQ ⟨rfl, N10⟩ (by decide) (by decide)
      · refine Goes.on (fun t k => XS.icmpYes X10.here hx rfl (pc0 := 45) (pc' := 52) rfl (hb hby at_45) rfl (feq hb11).2 (by decide) (by decide) k) ?_
        show Goes p e below QQ (T10.setTop (mkF m 52 #[iv p1, iv ((p1 &&& (2147483647 : Int32)) % (3 : Int32)), rv xK, iv 1] []))
        refine Goes.on (fun t k => XS.iconst X10.here hx rfl (hb hby at_52) k) ?_
        show Goes p e below QQ (T10.setTop (mkF m 53 #[iv p1, iv ((p1 &&& (2147483647 : Int32)) % (3 : Int32)), rv xK, iv 1] [(.int 0)]))
        exact absurd ((((if_neg hb1).trans ((if_neg hb5).trans ((if_neg hb11).trans rfl))) : lawF p1 xS xT xK = (0 : Int32)).symm.trans (lawT p1 xS xT xK ne_T ne_K)) (by decide)
set_option maxRecDepth 65536 in
set_option maxHeartbeats 40000000 in
theorem comes_1 {Post : Tables → Env → Array Value → State → Outcome → State → Prop} (hpost : ∀ tb e args s v u, (limb_1_1.after args s (.returned v) u = true ∧ limb_1_2.after args s (.returned v) u = true ∧ True) → FrameEnd s (.returned v) u (Jvm.fieldLocs frame_1_writes args s ++ Jvm.arrayLocs frame_1_arrays args s ++ Jvm.staticLocs frame_1_statics s) 0 0 → Post tb e args s (.returned v) u) :
    ArmFor flags0 classFile x code maxLocals ret World_1 tables_1 room_1 Calls_1 rest_1 Pre_1 Post := by
  intro l hfl _ _ p e ha hc hk s m args below hf hA hF happ hP
  obtain ⟨hcalls, hrest, hpre⟩ := hP
  obtain ⟨-, -, -, hnamed, -, -, -, hat⟩ := (Spec.applies_iff hf).mp happ
  obtain ⟨hg, hn⟩ := and_e (Cond.before_iff.mp (show (Jvm.Cond.and given_1 narrow_1).before args s = true from hpre))
  obtain ⟨hg0, hg1⟩ := and_e hg
  obtain ⟨w0, rfl⟩ : ∃ w0 : Value, args = #[w0] := by
    have hs : args.size = 1 := by simpa [Cond.value, given_1] using hg0
    obtain ⟨L⟩ := args
    match L, hs with
    | [w0], _ => exact ⟨w0, rfl⟩
  have hw := fun d (hd : d ∈ tables_1) => atoms_spec (ws := Jvm.Cond.code x code maxLocals ret :: tables_1) hat d (List.mem_cons_of_mem _ hd)
  have hfit : Fit s := fun {y c} hc i hi => by
    obtain ⟨ha, rfl⟩ := Array.getElem?_eq_some_iff.mp hc
    have q := List.all_eq_true.mp ((Array.all_eq_true_iff_forall_mem.mp hF) _ (Array.getElem_mem ha)) i (List.mem_range.mpr hi)
    simpa [Array.getElem?_eq_getElem hi] using q
  obtain ⟨i0, ei0⟩ := is_v hg1
  obtain rfl : w0 = (.int i0) := Option.some.inj ei0
  obtain ⟨nc0, nr0⟩ := and_e hn
  obtain ⟨nc1, nr1⟩ := and_e nr0
  obtain ⟨nc2, nr2⟩ := and_e nr1
  obtain ⟨nc3, nr3⟩ := and_e nr2
  obtain ⟨nc4, nr4⟩ := and_e nr3
  have nc5 := nr4
  obtain ⟨x_SILENT, ev_SILENT⟩ := exa_v nc0
  have EX_SILENT := Exa.start ev_SILENT nc0
  have ST_SILENT : Sta s s.heap "com/example/threadline/threadline/model/Failure$Kind" "SILENT" "Lcom/example/threadline/threadline/model/Failure$Kind;" (.ref x_SILENT) := Sta.start ev_SILENT (Or.inr ⟨(hw _ (List.mem_of_getElem? (i := 2) rfl)), (hw _ (List.mem_of_getElem? (i := 3) rfl))⟩)
  obtain ⟨x_KILL, ev_KILL⟩ := exa_v nc1
  have EX_KILL := Exa.start ev_KILL nc1
  have ST_KILL : Sta s s.heap "com/example/threadline/threadline/model/Failure$Kind" "KILL" "Lcom/example/threadline/threadline/model/Failure$Kind;" (.ref x_KILL) := Sta.start ev_KILL (Or.inr ⟨(hw _ (List.mem_of_getElem? (i := 2) rfl)), (hw _ (List.mem_of_getElem? (i := 11) rfl))⟩)
  obtain ⟨x_STOP, ev_STOP⟩ := exa_v nc4
  have EX_STOP := Exa.start ev_STOP nc4
  have ST_STOP : Sta s s.heap "com/example/threadline/threadline/model/Failure$Kind" "STOP" "Lcom/example/threadline/threadline/model/Failure$Kind;" (.ref x_STOP) := Sta.start ev_STOP (Or.inr ⟨(hw _ (List.mem_of_getElem? (i := 2) rfl)), (hw _ (List.mem_of_getElem? (i := 13) rfl))⟩)
  have FL_KILL_ordinal : Fld s s.heap x_KILL "java/lang/Enum" "ordinal" "I" (.int (2 : Int32)) := own_fldI ev_KILL nc2
  have FL_SILENT_ordinal : Fld s s.heap x_SILENT "java/lang/Enum" "ordinal" "I" (.int (0 : Int32)) := own_fldI ev_SILENT nc3
  have FL_STOP_ordinal : Fld s s.heap x_STOP "java/lang/Enum" "ordinal" "I" (.int (1 : Int32)) := own_fldI ev_STOP nc5
  have neT : ¬ x_STOP = x_SILENT := Fld.ne FL_STOP_ordinal FL_SILENT_ordinal (by decide)
  have neK : ¬ x_KILL = x_SILENT := Fld.ne FL_KILL_ordinal FL_SILENT_ordinal (by decide)
  obtain ⟨n, o, h1, h2, h3, _, L, rfl, ⟨rfl, N⟩, hq⟩ := rm0 l s _ hw tables_1 i0 x_SILENT x_STOP x_KILL s.heap s.heap.size (Nat.le_refl _) ST_SILENT EX_SILENT ST_STOP EX_STOP ST_KILL EX_KILL (Old.start s) neT neK p e ha hc hk s m _ below hf ((Spec.applies_iff_loose hf).mp happ).1 ⟨rfl, State.Warmed39.refl s, rfl⟩ trivial
  refine ⟨n, _, h1, h2, h3, hpost _ _ _ _ _ _ ⟨Cond.after_iff.mpr rfl, Cond.after_iff.mpr (eq_i res_at (Term.int_eval (1)) rfl), trivial⟩ ⟨hq.1, hq.2.1, (hq.2.2.sift fun y hy => Or.inr (N y hy)).mono (by decide) (by decide)⟩⟩
theorem main_1_1 : Claimed_1_1 := comes_1 fun _ _ _ _ _ _ h hF => ⟨h.1, hF⟩
theorem main_1_2 : Claimed_1_2 := comes_1 fun _ _ _ _ _ _ h hF => ⟨h.2.1, hF⟩
end Jvm.Pilot.@@N@@
namespace Jvm.Pilot.@@N@@
open Jvm Jvm.ClassFile Sem Op Lib Jvm.Free Jvm.Stand Jvm.Pilot.@@N@@.Jvm.D
/-! MADE BY PROGRAM (witnessworld.py) out of the Statement's table words and the real class files: 12 classes; the members and pool entries that the words name. The judged class is class 1, her method 1. -/
namespace start1
open Jvm.ClassFile
def u (s : String) : CpInfo := .utf8 (stringToUtf16 s)
/-- a pool by its gaps: so many unusable entries, then the entry; so many at the end -/
def gap : Nat → List CpInfo → List CpInfo
  | 0, r => r
  | n + 1, r => .unusable :: gap n r
def poolList (es : List (Nat × CpInfo)) (last : Nat) : List CpInfo := es.foldr (fun e r => gap e.1 (e.2 :: r)) (gap last [])
def pool (es : List (Nat × CpInfo)) (last : Nat) : Array CpInfo := ⟨poolList es last⟩
def fileOf (pool : Array CpInfo) (this : Nat) (attrs : Array Attribute := #[]) (ms : Array MethodInfo := #[]) (fl : Nat := 33) (sup : Nat := 0) (ifs : Array Nat := #[]) (fds : Array FieldInfo := #[]) : ClassFile where
  minorVersion := 0
  majorVersion := 65
  constantPool := pool
  accessFlags := fl
  thisClass := this
  superClass := sup
  interfaces := ifs
  fields := fds
  methods := ms
  attributes := attrs
def plain (name : String) (sup : Option ClassId) : Class where
  name := name
  kind := .ordinary
  loader := none
  accessFlags := 33
  super := sup
  interfaces := #[]
  cf := none
  fields := #[]
  methods := #[]
  instanceTypes := #[]
  staticTypes := #[]
  resolved := #[]
  callSites := []
  init := .initialized
  statics := none
  mirror := none

def pool0 : Array CpInfo := pool [(5, u "<init>"), (0, u "()V"), (1, .class_ 10), (1, u "java/lang/Object")] 113

def k0m0 : Method := { name := "<init>", desc := "()V", sig := { parameters := [], returnType := none }, accessFlags := 1, code := none }
/-- java/lang/Object -/
def k0 : Class := { plain "java/lang/Object" none with
  accessFlags := 33
  interfaces := #[]
  cf := some (fileOf pool0 8 #[] #[{ accessFlags := 1, nameIndex := 5, descriptorIndex := 6, attributes := #[] }] 33 0 #[] #[])
  fields := #[]
  methods := #[k0m0]
  instanceTypes := #[]
  staticTypes := #[]
  resolved := Array.replicate 124 none
  statics := none }

def pool1 : Array CpInfo := pool [(2, .class_ 4), (1, u "java/lang/Object"), (0, u "<init>"), (0, u "()V"), (0, .integer 2147483647), (0, .fieldref 9 10), (0, .class_ 11), (0, .nameAndType 12 13), (0, u "com/example/threadline/threadline/model/Failure$Kind"), (0, u "SILENT"), (0, u "Lcom/example/threadline/threadline/model/Failure$Kind;"), (0, .fieldref 9 15), (0, .nameAndType 16 13), (0, u "STOP"), (0, .fieldref 9 18), (0, .nameAndType 19 13), (0, u "KILL"), (0, .methodref 9 21), (0, .nameAndType 22 23), (0, u "signalled"), (0, u "()Z"), (0, .class_ 25), (0, u "com/example/threadline/threadline/model/KindSignalledPinLaw"), (2, u "law"), (0, u "(I)Z")] 7

def k1m0 : Method := { name := "<init>", desc := "()V", sig := { parameters := [], returnType := none }, accessFlags := 1, code := none }
def k1c1 : Code := { maxStack := 2, maxLocals := 4, code := code, exceptionTable := #[], attributes := #[] }
def k1m1 : Method := { name := "law", desc := "(I)Z", sig := { parameters := [.int], returnType := some .boolean }, accessFlags := 9, code := some k1c1 }
/-- com/example/threadline/threadline/model/KindSignalledPinLaw -/
def k1 : Class := { plain "com/example/threadline/threadline/model/KindSignalledPinLaw" (some 0) with
  accessFlags := 49
  interfaces := #[]
  cf := some (fileOf pool1 24 #[] #[{ accessFlags := 1, nameIndex := 5, descriptorIndex := 6, attributes := #[] }, { accessFlags := 9, nameIndex := 28, descriptorIndex := 29, attributes := #[] }] 49 2 #[] #[])
  fields := #[]
  methods := #[k1m0, k1m1]
  instanceTypes := #[]
  staticTypes := #[]
  resolved := Array.replicate 37 none
  statics := none }

def pool2 : Array CpInfo := pool [(1, .class_ 2), (0, u "java/lang/constant/Constable"), (0, .class_ 4), (0, u "java/lang/Object")] 6

/-- java/lang/constant/Constable -/
def k2 : Class := { plain "java/lang/constant/Constable" (some 0) with
  accessFlags := 1537
  interfaces := #[]
  cf := some (fileOf pool2 1 #[] #[] 1537 3 #[] #[])
  fields := #[]
  methods := #[]
  instanceTypes := #[]
  staticTypes := #[]
  resolved := Array.replicate 11 none
  statics := none }

def pool3 : Array CpInfo := pool [(1, .class_ 2), (0, u "java/lang/Comparable"), (0, .class_ 4), (0, u "java/lang/Object")] 7

/-- java/lang/Comparable -/
def k3 : Class := { plain "java/lang/Comparable" (some 0) with
  accessFlags := 1537
  interfaces := #[]
  cf := some (fileOf pool3 1 #[] #[] 1537 3 #[] #[])
  fields := #[]
  methods := #[]
  instanceTypes := #[]
  staticTypes := #[]
  resolved := Array.replicate 12 none
  statics := none }

def pool4 : Array CpInfo := pool [(1, .class_ 2), (0, u "java/io/Serializable"), (0, .class_ 4), (0, u "java/lang/Object")] 2

/-- java/io/Serializable -/
def k4 : Class := { plain "java/io/Serializable" (some 0) with
  accessFlags := 1537
  interfaces := #[]
  cf := some (fileOf pool4 1 #[] #[] 1537 3 #[] #[])
  fields := #[]
  methods := #[]
  instanceTypes := #[]
  staticTypes := #[]
  resolved := Array.replicate 7 none
  statics := none }

def pool5 : Array CpInfo := pool [(2, .class_ 4), (1, u "java/lang/Enum"), (0, u "name"), (0, u "Ljava/lang/String;"), (2, u "ordinal"), (0, u "I"), (1, .class_ 14), (1, u "java/lang/Object"), (4, u "hash"), (86, .class_ 108), (1, u "java/lang/Enum$EnumDesc"), (2, .class_ 112), (0, u "java/lang/constant/Constable"), (0, .class_ 114), (0, u "java/lang/Comparable"), (0, .class_ 116), (0, u "java/io/Serializable")] 87

/-- java/lang/Enum -/
def k5 : Class := { plain "java/lang/Enum" (some 0) with
  accessFlags := 1057
  interfaces := #[2, 3, 4]
  cf := some (fileOf pool5 2 #[.nestMembers #[106]] #[] 1057 12 #[111, 113, 115] #[{ accessFlags := 18, nameIndex := 5, descriptorIndex := 6, attributes := #[] }, { accessFlags := 18, nameIndex := 9, descriptorIndex := 10, attributes := #[] }, { accessFlags := 2, nameIndex := 19, descriptorIndex := 10, attributes := #[] }])
  fields := #[{ name := "name", type := (.object "java/lang/String"), accessFlags := 18, slot := 0, constantValue := 0 }, { name := "ordinal", type := .int, accessFlags := 18, slot := 1, constantValue := 0 }, { name := "hash", type := .int, accessFlags := 2, slot := 2, constantValue := 0 }]
  methods := #[]
  instanceTypes := #[(.object "java/lang/String"), .int, .int]
  staticTypes := #[]
  resolved := Array.replicate 204 none
  statics := none }

def pool6 : Array CpInfo := pool [(1, .class_ 2), (0, u "com/example/threadline/threadline/model/Failure$Kind"), (0, .fieldref 1 4), (0, .nameAndType 5 6), (0, u "SILENT"), (0, u "Lcom/example/threadline/threadline/model/Failure$Kind;"), (2, u "STOP"), (2, u "KILL"), (2, u "$VALUES"), (0, u "[Lcom/example/threadline/threadline/model/Failure$Kind;"), (6, .class_ 25), (1, u "java/lang/Enum"), (38, u "signalled"), (0, u "()Z"), (6, .class_ 73), (0, u "com/example/threadline/threadline/model/Failure")] 2

def k6c0 : Code := { maxStack := 2, maxLocals := 1, code := prog_12_method_5_code, exceptionTable := #[], attributes := #[] }
def k6m0 : Method := { name := "signalled", desc := "()Z", sig := { parameters := [], returnType := some .boolean }, accessFlags := 1, code := some k6c0 }
/-- com/example/threadline/threadline/model/Failure$Kind -/
def k6 : Class := { plain "com/example/threadline/threadline/model/Failure$Kind" (some 5) with
  accessFlags := 16433
  interfaces := #[]
  cf := some (fileOf pool6 1 #[.nestHost 72] #[{ accessFlags := 1, nameIndex := 64, descriptorIndex := 65, attributes := #[] }] 16433 23 #[] #[{ accessFlags := 16409, nameIndex := 5, descriptorIndex := 6, attributes := #[] }, { accessFlags := 16409, nameIndex := 9, descriptorIndex := 6, attributes := #[] }, { accessFlags := 16409, nameIndex := 12, descriptorIndex := 6, attributes := #[] }, { accessFlags := 4122, nameIndex := 15, descriptorIndex := 16, attributes := #[] }])
  fields := #[{ name := "SILENT", type := (.object "com/example/threadline/threadline/model/Failure$Kind"), accessFlags := 16409, slot := 0, constantValue := 0 }, { name := "STOP", type := (.object "com/example/threadline/threadline/model/Failure$Kind"), accessFlags := 16409, slot := 1, constantValue := 0 }, { name := "KILL", type := (.object "com/example/threadline/threadline/model/Failure$Kind"), accessFlags := 16409, slot := 2, constantValue := 0 }, { name := "$VALUES", type := (.array (.object "com/example/threadline/threadline/model/Failure$Kind")), accessFlags := 4122, slot := 3, constantValue := 0 }]
  methods := #[k6m0]
  instanceTypes := #[(.object "java/lang/String"), .int, .int]
  staticTypes := #[(.object "com/example/threadline/threadline/model/Failure$Kind"), (.object "com/example/threadline/threadline/model/Failure$Kind"), (.object "com/example/threadline/threadline/model/Failure$Kind"), (.array (.object "com/example/threadline/threadline/model/Failure$Kind"))]
  resolved := Array.replicate 76 none
  statics := some 0 }

def pool7 : Array CpInfo := pool [(1, u "java/lang/Cloneable"), (0, .class_ 1), (0, u "java/lang/Object"), (0, .class_ 3)] 3

/-- java/lang/Cloneable -/
def k7 : Class := { plain "java/lang/Cloneable" (some 0) with
  accessFlags := 1537
  interfaces := #[]
  cf := some (fileOf pool7 2 #[] #[] 1537 4 #[] #[])
  fields := #[]
  methods := #[]
  instanceTypes := #[]
  staticTypes := #[]
  resolved := Array.replicate 8 none
  statics := none }

/-- the primitive byte -/
def k8 : Class := { plain "byte" none with kind := .primitive 'B', accessFlags := 0x411 }
/-- [B -/
def k9 : Class := { plain "[B" (some 0) with kind := .array 8 .byte, interfaces := #[7, 4], accessFlags := 1041 }

/-- the primitive int -/
def k10 : Class := { plain "int" none with kind := .primitive 'I', accessFlags := 0x411 }
/-- [I -/
def k11 : Class := { plain "[I" (some 0) with kind := .array 10 .int, interfaces := #[7, 4], accessFlags := 1041 }

def heap : Heap := #[{ cls := 6, slots := #[.ref 1, .ref 2, .ref 3, .null], vm := .statics 6 },
  { cls := 6, slots := #[.null, .int 0, .int 0], vm := .none },
  { cls := 6, slots := #[.null, .int 1, .int 0], vm := .none },
  { cls := 6, slots := #[.null, .int 2, .int 0], vm := .none }]
def classes : Array Class := #[k0, k1, k2, k3, k4, k5, k6, k7, k8, k9, k10, k11]
def interned : List (Array UInt16 × Addr) := []
def slotsUsed : Nat := 13
def theMethod : MethodId := ⟨1, 1⟩
def args0 : Array Value := #[.int 5]
def aboutOver (below : List Frame) : State where
  vm := { classes := classes, interned := interned.toArray }
  heap := heap
  slotsUsed := slotsUsed
  threads := #[{ frames := .invoking theMethod args0 :: below }]
def below0 : List Frame := [.native { method := ⟨0, 0⟩, args := #[] }]
def about1 : State := aboutOver below0
def p0 : Program := .bare "" "" ""
def e0 : Env := launch0.env 0 0 0
theorem w_frames : about1.frames = Frame.invoking theMethod args0 :: below0 := rfl
set_option maxRecDepth 65536 in
theorem w_args : argsFit about1.vm theMethod args0 = true := by decide +kernel
set_option maxRecDepth 65536 in
theorem w_heap : heapFits about1 = true := by decide +kernel
set_option maxRecDepth 65536 in
theorem w_runnable : about1.curStatus? = some .runnable := by decide +kernel
set_option maxRecDepth 65536 in
theorem w_alone : about1.alone = true := by decide +kernel
set_option maxRecDepth 65536 in
theorem w_named : about1.methodNamed? x = some theMethod := by decide +kernel
set_option maxRecDepth 65536 in
theorem w_hears : about1.hears theMethod below0 = true := by decide +kernel
set_option maxRecDepth 65536 in
theorem w_ripe : about1.ripe theMethod args0 below0 = true := by decide +kernel
theorem w_running : about1.status = .running := rfl
set_option maxRecDepth 65536 in
theorem w_room : about1.hasRoom e0.platform room_1 = true :=
  launch0.hasRoom_least _ room_1 (by decide +kernel) (by decide +kernel) (by decide +kernel) (by decide +kernel) (by decide +kernel) (by decide +kernel)
theorem allAtoms_all (ts : List Jvm.Cond) (a : Array Jvm.Value) (st : Jvm.State) : (allAtoms ts).before a st = ts.all (fun c => c.before a st) := by
  induction ts with
  | nil => rfl
  | cons c t ih =>
    show (Jvm.Cond.and c (allAtoms t)).before a st = _
    rw [Jvm.Cond.before_and, ih, List.all_cons]
def words1 : List Jvm.Cond := Jvm.Cond.code x code maxLocals ret :: tables_1
/-- a 'code' word, met by the world's own term for the bytes: nothing is compared byte by byte -/
theorem code_word {y : MethodName} {bytes : ByteArray} {mx : Nat} {rt : Option FieldType} {a : Array Value} {s : State} {m : MethodId} {meth : Method} {c : Code} (h1 : s.methodNamed? y = some m) (h2 : s.vm.method? m = some meth) (h3 : meth.code = some c) (h4 : c.code = bytes)
    (h5 : (c.maxLocals == mx && c.exceptionTable.isEmpty && decide (c.maxStack ≤ mostOperands) && decide (meth.sig.returnType = rt) && !meth.locks && decide (parseMethodDescriptor y.desc = some meth.sig)) = true) : (Jvm.Cond.code y bytes mx rt).before a s = true := by
  simp only [Bool.and_eq_true, beq_iff_eq, Bool.not_eq_true', decide_eq_true_eq] at h5
  obtain ⟨⟨⟨⟨⟨g1, g2⟩, g3⟩, g4⟩, g5⟩, g6⟩ := h5
  simp [Cond.before, Cond.holds, Cond.value, h1, h2, h3, h4, g1, g2, g3, g4, g5, g6]
def isCode : Jvm.Cond → Bool
  | .code _ _ _ _ => true
  | _ => false
theorem all_split {L : List Jvm.Cond} {P : Jvm.Cond → Bool} (h1 : L.all (fun c => isCode c || P c) = true) (h2 : ∀ c ∈ L.filter isCode, P c = true) : L.all P = true := by
  refine List.all_eq_true.mpr fun c hc => ?_
  have h := List.all_eq_true.mp h1 c hc
  rcases Bool.eq_false_or_eq_true (isCode c) with hi | hi
  · exact h2 c (List.mem_filter.mpr ⟨hc, hi⟩)
  · simpa [hi] using h
set_option maxRecDepth 65536 in
theorem w_c0 : (Jvm.Cond.code x code maxLocals ret).before args0 about1 = true := code_word (m := ⟨1, 1⟩) (meth := k1m1) (c := k1c1) (by decide +kernel) rfl rfl rfl (by decide +kernel)
set_option maxRecDepth 65536 in
theorem w_c1 : (Jvm.Cond.code ({ cls := "com/example/threadline/threadline/model/Failure$Kind", name := "signalled", desc := "()Z" } : Jvm.MethodName) prog_12_method_5_code (1 : Nat) (Option.some Jvm.ClassFile.FieldType.boolean)).before args0 about1 = true := code_word (m := ⟨6, 0⟩) (meth := k6m0) (c := k6c0) (by decide +kernel) rfl rfl rfl (by decide +kernel)
def codes1 : List Jvm.Cond := [Jvm.Cond.code x code maxLocals ret, Jvm.Cond.code ({ cls := "com/example/threadline/threadline/model/Failure$Kind", name := "signalled", desc := "()Z" } : Jvm.MethodName) prog_12_method_5_code (1 : Nat) (Option.some Jvm.ClassFile.FieldType.boolean)]
set_option maxRecDepth 65536 in
theorem codes_eq : words1.filter isCode = codes1 := rfl
theorem w_codes : ∀ c ∈ words1.filter isCode, c.before args0 about1 = true := by
  rw [codes_eq]
  intro c hc
  simp only [codes1, List.mem_cons, List.not_mem_nil, or_false] at hc
  rcases hc with rfl | rfl
  · exact w_c0
  · exact w_c1
set_option maxRecDepth 65536 in
theorem w_t1 : words1.all (fun c => isCode c || c.before args0 about1) = true := by decide +kernel
theorem w_tables : (allAtoms (Jvm.Cond.code x code maxLocals ret :: tables_1)).before args0 about1 = true := by
  rw [allAtoms_all]
  show words1.all (fun c => c.before args0 about1) = true
  refine all_split ?_ w_codes
  rw [w_t1]
set_option maxRecDepth 65536 in
theorem w_case : (Jvm.Cond.and given_1 narrow_1).before args0 about1 = true := by decide +kernel
theorem w_applies : (headSpec (Jvm.Cond.code x code maxLocals ret :: tables_1) room_1).applies x e0.platform about1 = true :=
  (Spec.applies_iff w_frames).mpr ⟨w_running, w_runnable, w_alone, w_named, w_hears, w_ripe, w_room, w_tables⟩
theorem atStart : AtStart classFile x code maxLocals ret World_1 tables_1 room_1 Calls_1 rest_1 Pre_1 launch0 p0 e0 about1 theMethod args0 below0 :=
  ⟨lists_1, trivial, launch0.admits_env _ _ _, launch0.least_env, fairChoices_fair.cas, fairChoices_fair.clock, w_frames, w_args, w_heap, w_applies, trivial, trivial, w_case⟩
end start1
theorem witness_1 : WitnessClaimed_1 := ⟨start1.p0, start1.e0, start1.about1, start1.theMethod, start1.args0, start1.below0, start1.atStart⟩
end Jvm.Pilot.@@N@@
