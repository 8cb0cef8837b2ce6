import JvmDerived
import JvmDerived.Pilot.@@N@@Statement
import JvmDerived.Pilot.@@N@@Code
set_option linter.unusedVariables false
set_option linter.unusedSimpArgs false
namespace Jvm.Pilot.@@N@@
open Jvm Jvm.ClassFile Sem Op Lib Jvm.Free Jvm.Stand Jvm.LawKit Jvm.RoadKit Bundle Jvm.Pilot.@@N@@.Jvm.D
/-! from the state S the run comes to an end that QQ allows -/
def Goes (p : Program) (e : Env) (below : List Frame) (QQ : Outcome → State → Prop) (S : State) : Prop :=
  ∃ s₂ o, Steps p.tables e below S s₂ ∧ s₂.status = .running ∧ Ended s₂ below o ∧ QQ o s₂
theorem Goes.on {p : Program} {e : Env} {below : List Frame} {QQ : Outcome → State → Prop} {S S' : State} (h : ∀ t, Steps p.tables e below S' t → Steps p.tables e below S t) (g : Goes p e below QQ S') : Goes p e below QQ S := by
  obtain ⟨s₂, o, h1, h2⟩ := g
  exact ⟨s₂, o, h _ h1, h2⟩
theorem Goes.cast {p : Program} {e : Env} {below : List Frame} {QQ : Outcome → State → Prop} {T : State} {g g' : JFrame} (q : g = g') (k : Goes p e below QQ (T.setTop g')) : Goes p e below QQ (T.setTop g) := q ▸ k
def EndsQ (s : State) (Q : Option Value → Heap → List Loc → Prop) (kc ks : Nat) (o : Outcome) (U' : State) : Prop := ∃ v L, o = .returned v ∧ Q v U'.heap L ∧ FrameEnd s o U' L kc ks
/-- a result alone -/
def QP (x : Value) (h0 : Heap) (n0 : Nat) (v : Option Value) (h : Heap) (L : List Loc) : Prop := v = some x ∧ Fr n0 L ∧ h = h0
theorem own_enter {l : Launch} {y : MethodName} {bytes : ByteArray} {maxL : Nat} {rt : Option FieldType} {ws : List Jvm.Cond} {rm : Room} {as' : Array Value} {Q : Option Value → Heap → List Loc → Prop} {Z : State} {h0 : Heap} {kc ks : Nat} (hp : plainFor y = true)
    (body : ∀ (p : Program) (e : Env) (s : State) (m : MethodId) (below : List Frame) (meth : Method) (c : Code) (s₁ : State) (QQ : Outcome → State → Prop), (∀ o U', EndsQ s Q kc ks o U' → QQ o U') → p.tables.exec = Jvm.exec → c.code = bytes → c.maxLocals = maxL → s.vm.findClass y.cls = some m.cls → meth.name = y.name → meth.sig.returnType = rt → meth.locks = false → Z.Warmed39 s.vm → Stand p l e rm s m as' below meth c s₁ [] 0 0 → s₁.heap = h0 →
      Goes p e below QQ (s₁.setTop (entryFrame m as' maxL))) :
    MetFree l y (head1 (Jvm.Cond.code y bytes maxL rt :: ws) rm) (fun a U => a = as' ∧ Z.Warmed39 U.vm ∧ U.heap = h0) (fun _ _ _ _ _ => True) (fun _ U o U' => ∃ v L, o = .returned v ∧ Q v U'.heap L ∧ FrameEnd U o U' L kc ks) := by
  refine MetFree.of_bodySF hp hisR ?_
  intro p e s m args below meth c s₁ Bd hml0 hP hK
  obtain ⟨rfl, hZ, hh⟩ := hP
  exact body p e s m below meth c s₁ _ (fun o U' h => h) Bd.exec Bd.bytes hml0 (findClass_of_methodNamed Bd.named) (name_of_methodNamed Bd.named Bd.method).1 Bd.returns (BodyLoose.notSynchronized Bd) hZ (Stand.of_body Bd) (by rw [← hh, Bd.state]; rfl)
section Ret
variable {p : Program} {l : Launch} {e : Env} {R : Room} {s : State} {m : MethodId} {args : Array Value} {below : List Frame} {meth : Method} {c : Code} {T : State} {locs : List Loc} {cells slots kc ks : Nat} {QQ : Outcome → State → Prop} {Q : Option Value → Heap → List Loc → Prop}
theorem Goes.fin (X : Stand p l e R s m args below meth c T locs cells slots) (hlk : meth.locks = false) {v : Option Value} (hv : meth.sig.returnType = none → v = none) {g : JFrame}
    (step : ∀ fs : List Frame, (∀ (f : JFrame) (acts : List Action), f.method = m → f.locked = none → f.entered = [] → (doReturn e (T.setTop f) acts v).1 = T.setFrames fs) → Steps p.tables e below (T.setTop g) (T.setFrames fs))
    (hQQ : ∀ o U', EndsQ s Q kc ks o U' → QQ o U') (hq : Q v T.heap locs) (hc : cells ≤ kc) (hs : slots ≤ ks) : Goes p e below QQ (T.setTop g) := by
  obtain ⟨fs, hr, hrun, hended, hW, hsame⟩ := X.leave (v := v) hv hlk
  exact ⟨_, _, step fs hr, hrun, hended, hQQ _ _ ⟨v, locs, rfl, hq, ⟨v, rfl⟩, hW, hsame.mono hc hs⟩⟩
theorem Goes.rI (X : Stand p l e R s m args below meth c T locs cells slots) (hx : p.tables.exec = Jvm.exec) (hret : meth.sig.returnType = some .int) (hlk : meth.locks = false) {pc : Nat} {Ls : Array Slot} {z : Int32} {rest : List Value} (hd : decode c.code pc = .ok (.ireturn, 1))
    (hQQ : ∀ o U', EndsQ s Q kc ks o U' → QQ o U') (hq : Q (some (.int z)) T.heap locs) (hc : cells ≤ kc) (hs : slots ≤ ks) : Goes p e below QQ (T.setTop (mkF m pc Ls (.int z :: rest))) :=
  Goes.fin X hlk (v := some (.int z)) (fun h => by rw [hret] at h; cases h) (fun fs hr => retOut X hx hret rfl (Or.inl ⟨rfl, Or.inl rfl, z, rfl⟩) hd hr) hQQ hq hc hs
theorem Goes.rN (X : Stand p l e R s m args below meth c T locs cells slots) (hx : p.tables.exec = Jvm.exec) {t : FieldType} (hret : meth.sig.returnType = some t) (ht : t = .boolean ∨ t = .byte ∨ t = .char ∨ t = .short) (hlk : meth.locks = false) {pc : Nat} {Ls : Array Slot} {z : Int32} {rest : List Value} (hd : decode c.code pc = .ok (.ireturn, 1))
    (hQQ : ∀ o U', EndsQ s Q kc ks o U' → QQ o U') (hq : Q (some (.int (nar t z))) T.heap locs) (hc : cells ≤ kc) (hs : slots ≤ ks) : Goes p e below QQ (T.setTop (mkF m pc Ls (.int z :: rest))) :=
  Goes.fin X hlk (v := some (.int (nar t z))) (fun h => by rw [hret] at h; cases h) (fun fs hr => retN X hx hret ht hd hr) hQQ hq hc hs
theorem Goes.rJ (X : Stand p l e R s m args below meth c T locs cells slots) (hx : p.tables.exec = Jvm.exec) (hret : meth.sig.returnType = some .long) (hlk : meth.locks = false) {pc : Nat} {Ls : Array Slot} {z : Int64} {rest : List Value} (hd : decode c.code pc = .ok (.lreturn, 1))
    (hQQ : ∀ o U', EndsQ s Q kc ks o U' → QQ o U') (hq : Q (some (.long z)) T.heap locs) (hc : cells ≤ kc) (hs : slots ≤ ks) : Goes p e below QQ (T.setTop (mkF m pc Ls (.long z :: rest))) :=
  Goes.fin X hlk (v := some (.long z)) (fun h => by rw [hret] at h; cases h) (fun fs hr => retOut X hx hret rfl (Or.inr (Or.inl ⟨rfl, rfl, z, rfl⟩)) hd hr) hQQ hq hc hs
theorem Goes.rA (X : Stand p l e R s m args below meth c T locs cells slots) (hx : p.tables.exec = Jvm.exec) {t : FieldType} (hret : meth.sig.returnType = some t) (ht : t.isReference = true) {w : Value} (hw : w.isRef = true) (hlk : meth.locks = false) {pc : Nat} {Ls : Array Slot} {rest : List Value} (hd : decode c.code pc = .ok (.areturn, 1))
    (hQQ : ∀ o U', EndsQ s Q kc ks o U' → QQ o U') (hq : Q (some w) T.heap locs) (hc : cells ≤ kc) (hs : slots ≤ ks) : Goes p e below QQ (T.setTop (mkF m pc Ls (w :: rest))) :=
  Goes.fin X hlk (v := some w) (fun h => by rw [hret] at h; cases h) (fun fs hr => retOut X hx hret (by cases w <;> first | (cases hw; done) | (cases t <;> first | (cases ht; done) | rfl)) (Or.inr (Or.inr (Or.inr (Or.inr ⟨rfl, ht, hw⟩)))) hd hr) hQQ hq hc hs
theorem Goes.rV (X : Stand p l e R s m args below meth c T locs cells slots) (hx : p.tables.exec = Jvm.exec) (hret : meth.sig.returnType = none) (hlk : meth.locks = false) {pc : Nat} {Ls : Array Slot} (hd : decode c.code pc = .ok (.return_, 1))
    (hQQ : ∀ o U', EndsQ s Q kc ks o U' → QQ o U') (hq : Q none T.heap locs) (hc : cells ≤ kc) (hs : slots ≤ ks) : Goes p e below QQ (T.setTop (mkF m pc Ls [])) :=
  Goes.fin X hlk (v := none) (fun _ => rfl) (fun fs hr => X.returnOut hx hret hd hr) hQQ hq hc hs
end Ret
/-- what the law leaves: it returned 1, and nothing old was written -/
def QL (n0 : Nat) (v : Option Value) (h : Heap) (L : List Loc) : Prop := v = some (.int 1) ∧ Fr n0 L
theorem d3_0 : decode method_3_code 0 = .ok (.iload_n 0, 1) := by decide +kernel
theorem d3_1 : decode method_3_code 1 = .ok (.sipush 192, 3) := by decide +kernel
theorem d3_4 : decode method_3_code 4 = .ok (.iand, 1) := by decide +kernel
theorem d3_5 : decode method_3_code 5 = .ok (.sipush 128, 3) := by decide +kernel
theorem d3_8 : decode method_3_code 8 = .ok (.if_icmp .ne 7, 3) := by decide +kernel
theorem d3_11 : decode method_3_code 11 = .ok (.iconst 1, 1) := by decide +kernel
theorem d3_12 : decode method_3_code 12 = .ok (.goto 4, 3) := by decide +kernel
theorem d3_15 : decode method_3_code 15 = .ok (.iconst 0, 1) := by decide +kernel
theorem d3_16 : decode method_3_code 16 = .ok (.ireturn, 1) := by decide +kernel
theorem pn_3 : plainFor (⟨"com/example/sober_links/soberlinks/io/Utf8SequenceLengthPinLaw", "cont", "(I)Z"⟩ : MethodName) = true := plainFor_of_name (show plainName "com/example/sober_links/soberlinks/io/Utf8SequenceLengthPinLaw" = true by first | (simp [plainName, overriddenIn]; done) | decide +kernel)
theorem ef_rm1 (m : MethodId) (x0 : Int32) : entryFrame m #[(.int x0)] 1 = mkF m 0 #[iv x0] [] := by first | (simp [entryFrame, mkF, argsToLocals, Value.category]; done) | rfl
def contF (p1 : Int32) : Int32 := (if (p1 &&& (192 : Int32)) = (128 : Int32) then (1 : Int32) else (0 : Int32))
set_option maxRecDepth 65536 in
set_option maxHeartbeats 40000000 in
theorem rm1 (l : Launch) (Z : State) (a0 : Array Value) (hw : ∀ d ∈ tables_1, d.before a0 Z = true) (ws : List Jvm.Cond) (p1 : Int32)  (h0 : Heap) (n0 : Nat) (Z0 : n0 ≤ h0.size)  :
    MetFree l (⟨"com/example/sober_links/soberlinks/io/Utf8SequenceLengthPinLaw", "cont", "(I)Z"⟩ : MethodName) (head1 (Jvm.Cond.code (⟨"com/example/sober_links/soberlinks/io/Utf8SequenceLengthPinLaw", "cont", "(I)Z"⟩ : MethodName) method_3_code 1 (some .boolean) :: ws) ({ frames := 0, cells := 0, slots := 0, locals := 0 } : Room)) (fun a U => a = #[(.int p1)] ∧ Z.Warmed39 U.vm ∧ U.heap = h0) (fun _ _ _ _ _ => True) (fun _ U o U' => ∃ v L, o = .returned v ∧ QP (.int (contF p1)) h0 n0 v U'.heap L ∧ FrameEnd U o U' L ({ frames := 0, cells := 0, slots := 0, locals := 0 } : Room).cells ({ frames := 0, cells := 0, slots := 0, locals := 0 } : Room).slots) := by
  refine own_enter pn_3 ?_
  intro p e s m below meth c s₁ QQ hQQ hx hby hml hown hnm hret hlk hZ X0 e0
  have hown : s.vm.findClass "com/example/sober_links/soberlinks/io/Utf8SequenceLengthPinLaw" = some m.cls := hown
  have hml : c.maxLocals = 1 := hml
  have hret : meth.sig.returnType = some .boolean := hret
  have N0 := Fr.nil n0
  have K0 := Keep.refl h0 []
  refine Goes.cast (ef_rm1 m p1) ?_
  show Goes p e below QQ (s₁.setTop (mkF m 0 #[iv p1] []))
  refine Goes.on (fun t k => XS.iloadN X0.here hx rfl (hb hby d3_0) rfl k) ?_
  show Goes p e below QQ (s₁.setTop (mkF m 1 #[iv p1] [(.int p1)]))
  refine Goes.on (fun t k => XS.sipush X0.here hx rfl (hb hby d3_1) k) ?_
  show Goes p e below QQ (s₁.setTop (mkF m 4 #[iv p1] [(.int 192), (.int p1)]))
  refine Goes.on (fun t k => XS.iand X0.here hx rfl (hb hby d3_4) rfl k) ?_
  show Goes p e below QQ (s₁.setTop (mkF m 5 #[iv p1] [(.int (p1 &&& (192 : Int32)))]))
  refine Goes.on (fun t k => XS.sipush X0.here hx rfl (hb hby d3_5) k) ?_
  show Goes p e below QQ (s₁.setTop (mkF m 8 #[iv p1] [(.int 128), (.int (p1 &&& (192 : Int32)))]))
  by_cases hb1 : (p1 &&& (192 : Int32)) = (128 : Int32)
  · refine Goes.on (fun t k => XS.icmpNo X0.here hx rfl (hb hby d3_8) rfl (teq hb1).2 k) ?_
    show Goes p e below QQ (s₁.setTop (mkF m 11 #[iv p1] []))
    refine Goes.on (fun t k => XS.iconst X0.here hx rfl (hb hby d3_11) k) ?_
    show Goes p e below QQ (s₁.setTop (mkF m 12 #[iv p1] [(.int 1)]))
    refine Goes.on (fun t k => XS.goto X0.here hx rfl (pc0 := 12) (pc' := 16) rfl (hb hby d3_12) (by decide) (by decide) k) ?_
    show Goes p e below QQ (s₁.setTop (mkF m 16 #[iv p1] [(.int 1)]))
    have hv : nar .boolean (1 : Int32) = (1 : Int32) := rfl
    exact Goes.rN X0 hx (t := .boolean) hret (by simp) hlk (hb hby d3_16) hQQ ⟨congrArg (fun z => some (Value.int z)) (hv.trans (((if_pos hb1).trans rfl) : (contF p1) = (1 : Int32)).symm), N0, e0⟩ (by decide) (by decide)
  · refine Goes.on (fun t k => XS.icmpYes X0.here hx rfl (pc0 := 8) (pc' := 15) rfl (hb hby d3_8) rfl (feq hb1).2 (by decide) (by decide) k) ?_
    show Goes p e below QQ (s₁.setTop (mkF m 15 #[iv p1] []))
    refine Goes.on (fun t k => XS.iconst X0.here hx rfl (hb hby d3_15) k) ?_
    show Goes p e below QQ (s₁.setTop (mkF m 16 #[iv p1] [(.int 0)]))
    have hv : nar .boolean (0 : Int32) = (0 : Int32) := rfl
    exact Goes.rN X0 hx (t := .boolean) hret (by simp) hlk (hb hby d3_16) hQQ ⟨congrArg (fun z => some (Value.int z)) (hv.trans (((if_neg hb1).trans rfl) : (contF p1) = (0 : Int32)).symm), N0, e0⟩ (by decide) (by decide)
theorem d1_0 : decode method_4_code 0 = .ok (.iload_n 0, 1) := by decide +kernel
theorem d1_1 : decode method_4_code 1 = .ok (.sipush 128, 3) := by decide +kernel
theorem d1_4 : decode method_4_code 4 = .ok (.if_icmp .ge 15, 3) := by decide +kernel
theorem d1_7 : decode method_4_code 7 = .ok (.iload 4, 2) := by decide +kernel
theorem d1_9 : decode method_4_code 9 = .ok (.iconst 1, 1) := by decide +kernel
theorem d1_10 : decode method_4_code 10 = .ok (.if_icmp .lt 7, 3) := by decide +kernel
theorem d1_13 : decode method_4_code 13 = .ok (.iconst 1, 1) := by decide +kernel
theorem d1_14 : decode method_4_code 14 = .ok (.goto 4, 3) := by decide +kernel
theorem d1_17 : decode method_4_code 17 = .ok (.iconst 0, 1) := by decide +kernel
theorem d1_18 : decode method_4_code 18 = .ok (.ireturn, 1) := by decide +kernel
theorem d1_19 : decode method_4_code 19 = .ok (.iload_n 0, 1) := by decide +kernel
theorem d1_20 : decode method_4_code 20 = .ok (.sipush 224, 3) := by decide +kernel
theorem d1_23 : decode method_4_code 23 = .ok (.iand, 1) := by decide +kernel
theorem d1_24 : decode method_4_code 24 = .ok (.sipush 192, 3) := by decide +kernel
theorem d1_27 : decode method_4_code 27 = .ok (.if_icmp .ne 28, 3) := by decide +kernel
theorem d1_30 : decode method_4_code 30 = .ok (.iconst 2, 1) := by decide +kernel
theorem d1_31 : decode method_4_code 31 = .ok (.istore 5, 2) := by decide +kernel
theorem d1_33 : decode method_4_code 33 = .ok (.iload_n 0, 1) := by decide +kernel
theorem d1_34 : decode method_4_code 34 = .ok (.bipush 31, 2) := by decide +kernel
theorem d1_36 : decode method_4_code 36 = .ok (.iand, 1) := by decide +kernel
theorem d1_37 : decode method_4_code 37 = .ok (.bipush 6, 2) := by decide +kernel
theorem d1_39 : decode method_4_code 39 = .ok (.ishl, 1) := by decide +kernel
theorem d1_40 : decode method_4_code 40 = .ok (.iload_n 1, 1) := by decide +kernel
theorem d1_41 : decode method_4_code 41 = .ok (.bipush 63, 2) := by decide +kernel
theorem d1_43 : decode method_4_code 43 = .ok (.iand, 1) := by decide +kernel
theorem d1_44 : decode method_4_code 44 = .ok (.ior, 1) := by decide +kernel
theorem d1_45 : decode method_4_code 45 = .ok (.istore 6, 2) := by decide +kernel
theorem d1_47 : decode method_4_code 47 = .ok (.sipush 128, 3) := by decide +kernel
theorem d1_50 : decode method_4_code 50 = .ok (.istore 7, 2) := by decide +kernel
theorem d1_52 : decode method_4_code 52 = .ok (.goto 100, 3) := by decide +kernel
theorem d1_55 : decode method_4_code 55 = .ok (.iload_n 0, 1) := by decide +kernel
theorem d1_56 : decode method_4_code 56 = .ok (.sipush 240, 3) := by decide +kernel
theorem d1_59 : decode method_4_code 59 = .ok (.iand, 1) := by decide +kernel
theorem d1_60 : decode method_4_code 60 = .ok (.sipush 224, 3) := by decide +kernel
theorem d1_63 : decode method_4_code 63 = .ok (.if_icmp .ne 36, 3) := by decide +kernel
theorem d1_66 : decode method_4_code 66 = .ok (.iconst 3, 1) := by decide +kernel
theorem d1_67 : decode method_4_code 67 = .ok (.istore 5, 2) := by decide +kernel
theorem d1_69 : decode method_4_code 69 = .ok (.iload_n 0, 1) := by decide +kernel
theorem d1_70 : decode method_4_code 70 = .ok (.bipush 15, 2) := by decide +kernel
theorem d1_72 : decode method_4_code 72 = .ok (.iand, 1) := by decide +kernel
theorem d1_73 : decode method_4_code 73 = .ok (.bipush 12, 2) := by decide +kernel
theorem d1_75 : decode method_4_code 75 = .ok (.ishl, 1) := by decide +kernel
theorem d1_76 : decode method_4_code 76 = .ok (.iload_n 1, 1) := by decide +kernel
theorem d1_77 : decode method_4_code 77 = .ok (.bipush 63, 2) := by decide +kernel
theorem d1_79 : decode method_4_code 79 = .ok (.iand, 1) := by decide +kernel
theorem d1_80 : decode method_4_code 80 = .ok (.bipush 6, 2) := by decide +kernel
theorem d1_82 : decode method_4_code 82 = .ok (.ishl, 1) := by decide +kernel
theorem d1_83 : decode method_4_code 83 = .ok (.ior, 1) := by decide +kernel
theorem d1_84 : decode method_4_code 84 = .ok (.iload_n 2, 1) := by decide +kernel
theorem d1_85 : decode method_4_code 85 = .ok (.bipush 63, 2) := by decide +kernel
theorem d1_87 : decode method_4_code 87 = .ok (.iand, 1) := by decide +kernel
theorem d1_88 : decode method_4_code 88 = .ok (.ior, 1) := by decide +kernel
theorem d1_89 : decode method_4_code 89 = .ok (.istore 6, 2) := by decide +kernel
theorem d1_91 : decode method_4_code 91 = .ok (.sipush 2048, 3) := by decide +kernel
theorem d1_94 : decode method_4_code 94 = .ok (.istore 7, 2) := by decide +kernel
theorem d1_96 : decode method_4_code 96 = .ok (.goto 56, 3) := by decide +kernel
theorem d1_99 : decode method_4_code 99 = .ok (.iload_n 0, 1) := by decide +kernel
theorem d1_100 : decode method_4_code 100 = .ok (.sipush 248, 3) := by decide +kernel
theorem d1_103 : decode method_4_code 103 = .ok (.iand, 1) := by decide +kernel
theorem d1_104 : decode method_4_code 104 = .ok (.sipush 240, 3) := by decide +kernel
theorem d1_107 : decode method_4_code 107 = .ok (.if_icmp .ne 43, 3) := by decide +kernel
theorem d1_110 : decode method_4_code 110 = .ok (.iconst 4, 1) := by decide +kernel
theorem d1_111 : decode method_4_code 111 = .ok (.istore 5, 2) := by decide +kernel
theorem d1_113 : decode method_4_code 113 = .ok (.iload_n 0, 1) := by decide +kernel
theorem d1_114 : decode method_4_code 114 = .ok (.bipush 7, 2) := by decide +kernel
theorem d1_116 : decode method_4_code 116 = .ok (.iand, 1) := by decide +kernel
theorem d1_117 : decode method_4_code 117 = .ok (.bipush 18, 2) := by decide +kernel
theorem d1_119 : decode method_4_code 119 = .ok (.ishl, 1) := by decide +kernel
theorem d1_120 : decode method_4_code 120 = .ok (.iload_n 1, 1) := by decide +kernel
theorem d1_121 : decode method_4_code 121 = .ok (.bipush 63, 2) := by decide +kernel
theorem d1_123 : decode method_4_code 123 = .ok (.iand, 1) := by decide +kernel
theorem d1_124 : decode method_4_code 124 = .ok (.bipush 12, 2) := by decide +kernel
theorem d1_126 : decode method_4_code 126 = .ok (.ishl, 1) := by decide +kernel
theorem d1_127 : decode method_4_code 127 = .ok (.ior, 1) := by decide +kernel
theorem d1_128 : decode method_4_code 128 = .ok (.iload_n 2, 1) := by decide +kernel
theorem d1_129 : decode method_4_code 129 = .ok (.bipush 63, 2) := by decide +kernel
theorem d1_131 : decode method_4_code 131 = .ok (.iand, 1) := by decide +kernel
theorem d1_132 : decode method_4_code 132 = .ok (.bipush 6, 2) := by decide +kernel
theorem d1_134 : decode method_4_code 134 = .ok (.ishl, 1) := by decide +kernel
theorem d1_135 : decode method_4_code 135 = .ok (.ior, 1) := by decide +kernel
theorem d1_136 : decode method_4_code 136 = .ok (.iload_n 3, 1) := by decide +kernel
theorem d1_137 : decode method_4_code 137 = .ok (.bipush 63, 2) := by decide +kernel
theorem d1_139 : decode method_4_code 139 = .ok (.iand, 1) := by decide +kernel
theorem d1_140 : decode method_4_code 140 = .ok (.ior, 1) := by decide +kernel
theorem d1_141 : decode method_4_code 141 = .ok (.istore 6, 2) := by decide +kernel
theorem d1_143 : decode method_4_code 143 = .ok (.ldc 20, 2) := by decide +kernel
theorem d1_145 : decode method_4_code 145 = .ok (.istore 7, 2) := by decide +kernel
theorem d1_147 : decode method_4_code 147 = .ok (.goto 5, 3) := by decide +kernel
theorem d1_150 : decode method_4_code 150 = .ok (.iconst 0, 1) := by decide +kernel
theorem d1_151 : decode method_4_code 151 = .ok (.ireturn, 1) := by decide +kernel
theorem d1_152 : decode method_4_code 152 = .ok (.iload 4, 2) := by decide +kernel
theorem d1_154 : decode method_4_code 154 = .ok (.iload 5, 2) := by decide +kernel
theorem d1_156 : decode method_4_code 156 = .ok (.if_icmp .ge 5, 3) := by decide +kernel
theorem d1_159 : decode method_4_code 159 = .ok (.iconst 0, 1) := by decide +kernel
theorem d1_160 : decode method_4_code 160 = .ok (.ireturn, 1) := by decide +kernel
theorem d1_161 : decode method_4_code 161 = .ok (.iload_n 1, 1) := by decide +kernel
theorem d1_162 : decode method_4_code 162 = .ok (.invokestatic 21, 3) := by decide +kernel
theorem d1_165 : decode method_4_code 165 = .ok (.ifCond .eq 33, 3) := by decide +kernel
theorem d1_168 : decode method_4_code 168 = .ok (.iload 5, 2) := by decide +kernel
theorem d1_170 : decode method_4_code 170 = .ok (.iconst 3, 1) := by decide +kernel
theorem d1_171 : decode method_4_code 171 = .ok (.if_icmp .lt 10, 3) := by decide +kernel
theorem d1_174 : decode method_4_code 174 = .ok (.iload_n 2, 1) := by decide +kernel
theorem d1_175 : decode method_4_code 175 = .ok (.invokestatic 21, 3) := by decide +kernel
theorem d1_178 : decode method_4_code 178 = .ok (.ifCond .eq 20, 3) := by decide +kernel
theorem d1_181 : decode method_4_code 181 = .ok (.iload 5, 2) := by decide +kernel
theorem d1_183 : decode method_4_code 183 = .ok (.iconst 4, 1) := by decide +kernel
theorem d1_184 : decode method_4_code 184 = .ok (.if_icmp .lt 10, 3) := by decide +kernel
theorem d1_187 : decode method_4_code 187 = .ok (.iload_n 3, 1) := by decide +kernel
theorem d1_188 : decode method_4_code 188 = .ok (.invokestatic 21, 3) := by decide +kernel
theorem d1_191 : decode method_4_code 191 = .ok (.ifCond .eq 7, 3) := by decide +kernel
theorem d1_194 : decode method_4_code 194 = .ok (.iconst 1, 1) := by decide +kernel
theorem d1_195 : decode method_4_code 195 = .ok (.goto 4, 3) := by decide +kernel
theorem d1_198 : decode method_4_code 198 = .ok (.iconst 0, 1) := by decide +kernel
theorem d1_199 : decode method_4_code 199 = .ok (.istore 8, 2) := by decide +kernel
theorem d1_201 : decode method_4_code 201 = .ok (.iload 8, 2) := by decide +kernel
theorem d1_203 : decode method_4_code 203 = .ok (.ifCond .eq 35, 3) := by decide +kernel
theorem d1_206 : decode method_4_code 206 = .ok (.iload 6, 2) := by decide +kernel
theorem d1_208 : decode method_4_code 208 = .ok (.iload 7, 2) := by decide +kernel
theorem d1_210 : decode method_4_code 210 = .ok (.if_icmp .lt 28, 3) := by decide +kernel
theorem d1_213 : decode method_4_code 213 = .ok (.iload 6, 2) := by decide +kernel
theorem d1_215 : decode method_4_code 215 = .ok (.ldc 25, 2) := by decide +kernel
theorem d1_217 : decode method_4_code 217 = .ok (.if_icmp .gt 21, 3) := by decide +kernel
theorem d1_220 : decode method_4_code 220 = .ok (.iload 6, 2) := by decide +kernel
theorem d1_222 : decode method_4_code 222 = .ok (.ldc 26, 2) := by decide +kernel
theorem d1_224 : decode method_4_code 224 = .ok (.if_icmp .lt 10, 3) := by decide +kernel
theorem d1_227 : decode method_4_code 227 = .ok (.iload 6, 2) := by decide +kernel
theorem d1_229 : decode method_4_code 229 = .ok (.ldc 27, 2) := by decide +kernel
theorem d1_231 : decode method_4_code 231 = .ok (.if_icmp .le 7, 3) := by decide +kernel
theorem d1_234 : decode method_4_code 234 = .ok (.iconst 1, 1) := by decide +kernel
theorem d1_235 : decode method_4_code 235 = .ok (.goto 4, 3) := by decide +kernel
theorem d1_238 : decode method_4_code 238 = .ok (.iconst 0, 1) := by decide +kernel
theorem d1_239 : decode method_4_code 239 = .ok (.istore 9, 2) := by decide +kernel
theorem d1_241 : decode method_4_code 241 = .ok (.iload 9, 2) := by decide +kernel
theorem d1_243 : decode method_4_code 243 = .ok (.ifCond .eq 8, 3) := by decide +kernel
theorem d1_246 : decode method_4_code 246 = .ok (.iload 5, 2) := by decide +kernel
theorem d1_248 : decode method_4_code 248 = .ok (.goto 4, 3) := by decide +kernel
theorem d1_251 : decode method_4_code 251 = .ok (.iconst 0, 1) := by decide +kernel
theorem d1_252 : decode method_4_code 252 = .ok (.ireturn, 1) := by decide +kernel
theorem pn_1 : plainFor (⟨"com/example/sober_links/soberlinks/io/Utf8SequenceLengthPinLaw", "expected", "(IIIII)I"⟩ : MethodName) = true := plainFor_of_name (show plainName "com/example/sober_links/soberlinks/io/Utf8SequenceLengthPinLaw" = true by first | (simp [plainName, overriddenIn]; done) | decide +kernel)
theorem ef_rm2 (m : MethodId) (x0 : Int32) (x1 : Int32) (x2 : Int32) (x3 : Int32) (x4 : Int32) : entryFrame m #[(.int x0), (.int x1), (.int x2), (.int x3), (.int x4)] 10 = mkF m 0 #[iv x0, iv x1, iv x2, iv x3, iv x4, .unset, .unset, .unset, .unset, .unset] [] := by first | (simp [entryFrame, mkF, argsToLocals, Value.category]; done) | rfl
theorem pd_0 : parseMethodDescriptor "(I)Z" = some ⟨[.int], some .boolean⟩ := by decide +kernel
def expF (p1 : Int32) (p2 : Int32) (p3 : Int32) (p4 : Int32) (p5 : Int32) : Int32 := (if p1 < (128 : Int32) then (if p5 < (1 : Int32) then (0 : Int32) else (1 : Int32)) else (if (p1 &&& (224 : Int32)) = (192 : Int32) then (if p5 < (2 : Int32) then (0 : Int32) else (if (if (if (contF p2) = (0 : Int32) then (0 : Int32) else (1 : Int32)) = (0 : Int32) then (0 : Int32) else (if (((p1 &&& (31 : Int32)) <<< ((6 : Int32) &&& 31)) ||| (p2 &&& (63 : Int32))) < (128 : Int32) then (0 : Int32) else (if (1114111 : Int32) < (((p1 &&& (31 : Int32)) <<< ((6 : Int32) &&& 31)) ||| (p2 &&& (63 : Int32))) then (0 : Int32) else (if (((p1 &&& (31 : Int32)) <<< ((6 : Int32) &&& 31)) ||| (p2 &&& (63 : Int32))) < (55296 : Int32) then (1 : Int32) else (if (57343 : Int32) < (((p1 &&& (31 : Int32)) <<< ((6 : Int32) &&& 31)) ||| (p2 &&& (63 : Int32))) then (1 : Int32) else (0 : Int32)))))) = (0 : Int32) then (0 : Int32) else (2 : Int32))) else (if (p1 &&& (240 : Int32)) = (224 : Int32) then (if p5 < (3 : Int32) then (0 : Int32) else (if (if (if (contF p2) = (0 : Int32) then (0 : Int32) else (if (contF p3) = (0 : Int32) then (0 : Int32) else (1 : Int32))) = (0 : Int32) then (0 : Int32) else (if ((((p1 &&& (15 : Int32)) <<< ((12 : Int32) &&& 31)) ||| ((p2 &&& (63 : Int32)) <<< ((6 : Int32) &&& 31))) ||| (p3 &&& (63 : Int32))) < (2048 : Int32) then (0 : Int32) else (if (1114111 : Int32) < ((((p1 &&& (15 : Int32)) <<< ((12 : Int32) &&& 31)) ||| ((p2 &&& (63 : Int32)) <<< ((6 : Int32) &&& 31))) ||| (p3 &&& (63 : Int32))) then (0 : Int32) else (if ((((p1 &&& (15 : Int32)) <<< ((12 : Int32) &&& 31)) ||| ((p2 &&& (63 : Int32)) <<< ((6 : Int32) &&& 31))) ||| (p3 &&& (63 : Int32))) < (55296 : Int32) then (1 : Int32) else (if (57343 : Int32) < ((((p1 &&& (15 : Int32)) <<< ((12 : Int32) &&& 31)) ||| ((p2 &&& (63 : Int32)) <<< ((6 : Int32) &&& 31))) ||| (p3 &&& (63 : Int32))) then (1 : Int32) else (0 : Int32)))))) = (0 : Int32) then (0 : Int32) else (3 : Int32))) else (if (p1 &&& (248 : Int32)) = (240 : Int32) then (if p5 < (4 : Int32) then (0 : Int32) else (if (if (if (contF p2) = (0 : Int32) then (0 : Int32) else (if (contF p3) = (0 : Int32) then (0 : Int32) else (if (contF p4) = (0 : Int32) then (0 : Int32) else (1 : Int32)))) = (0 : Int32) then (0 : Int32) else (if (((((p1 &&& (7 : Int32)) <<< ((18 : Int32) &&& 31)) ||| ((p2 &&& (63 : Int32)) <<< ((12 : Int32) &&& 31))) ||| ((p3 &&& (63 : Int32)) <<< ((6 : Int32) &&& 31))) ||| (p4 &&& (63 : Int32))) < (65536 : Int32) then (0 : Int32) else (if (1114111 : Int32) < (((((p1 &&& (7 : Int32)) <<< ((18 : Int32) &&& 31)) ||| ((p2 &&& (63 : Int32)) <<< ((12 : Int32) &&& 31))) ||| ((p3 &&& (63 : Int32)) <<< ((6 : Int32) &&& 31))) ||| (p4 &&& (63 : Int32))) then (0 : Int32) else (if (((((p1 &&& (7 : Int32)) <<< ((18 : Int32) &&& 31)) ||| ((p2 &&& (63 : Int32)) <<< ((12 : Int32) &&& 31))) ||| ((p3 &&& (63 : Int32)) <<< ((6 : Int32) &&& 31))) ||| (p4 &&& (63 : Int32))) < (55296 : Int32) then (1 : Int32) else (if (57343 : Int32) < (((((p1 &&& (7 : Int32)) <<< ((18 : Int32) &&& 31)) ||| ((p2 &&& (63 : Int32)) <<< ((12 : Int32) &&& 31))) ||| ((p3 &&& (63 : Int32)) <<< ((6 : Int32) &&& 31))) ||| (p4 &&& (63 : Int32))) then (1 : Int32) else (0 : Int32)))))) = (0 : Int32) then (0 : Int32) else (4 : Int32))) else (0 : Int32)))))
set_option maxRecDepth 65536 in
set_option maxHeartbeats 40000000 in
theorem rm2 (l : Launch) (Z : State) (a0 : Array Value) (hw : ∀ d ∈ tables_1, d.before a0 Z = true) (ws : List Jvm.Cond) (p1 : Int32) (p2 : Int32) (p3 : Int32) (p4 : Int32) (p5 : Int32)  (h0 : Heap) (n0 : Nat) (Z0 : n0 ≤ h0.size)  :
    MetFree l (⟨"com/example/sober_links/soberlinks/io/Utf8SequenceLengthPinLaw", "expected", "(IIIII)I"⟩ : MethodName) (head1 (Jvm.Cond.code (⟨"com/example/sober_links/soberlinks/io/Utf8SequenceLengthPinLaw", "expected", "(IIIII)I"⟩ : MethodName) method_4_code 10 (some .int) :: ws) ({ frames := 1, cells := 0, slots := 0, locals := 12 } : Room)) (fun a U => a = #[(.int p1), (.int p2), (.int p3), (.int p4), (.int p5)] ∧ Z.Warmed39 U.vm ∧ U.heap = h0) (fun _ _ _ _ _ => True) (fun _ U o U' => ∃ v L, o = .returned v ∧ QP (.int (expF p1 p2 p3 p4 p5)) h0 n0 v U'.heap L ∧ FrameEnd U o U' L ({ frames := 1, cells := 0, slots := 0, locals := 12 } : Room).cells ({ frames := 1, cells := 0, slots := 0, locals := 12 } : Room).slots) := by
  refine own_enter pn_1 ?_
  intro p e s m below meth c s₁ QQ hQQ hx hby hml hown hnm hret hlk hZ X0 e0
  have hown : s.vm.findClass "com/example/sober_links/soberlinks/io/Utf8SequenceLengthPinLaw" = some m.cls := hown
  have hml : c.maxLocals = 10 := hml
  have hret : meth.sig.returnType = some .int := hret
  have N0 := Fr.nil n0
  have K0 := Keep.refl h0 []
  refine Goes.cast (ef_rm2 m p1 p2 p3 p4 p5) ?_
  show Goes p e below QQ (s₁.setTop (mkF m 0 #[iv p1, iv p2, iv p3, iv p4, iv p5, .unset, .unset, .unset, .unset, .unset] []))
  refine Goes.on (fun t k => XS.iloadN X0.here hx rfl (hb hby d1_0) rfl k) ?_
  show Goes p e below QQ (s₁.setTop (mkF m 1 #[iv p1, iv p2, iv p3, iv p4, iv p5, .unset, .unset, .unset, .unset, .unset] [(.int p1)]))
  refine Goes.on (fun t k => XS.sipush X0.here hx rfl (hb hby d1_1) k) ?_
  show Goes p e below QQ (s₁.setTop (mkF m 4 #[iv p1, iv p2, iv p3, iv p4, iv p5, .unset, .unset, .unset, .unset, .unset] [(.int 128), (.int p1)]))
  by_cases hb1 : p1 < (128 : Int32)
  · refine Goes.on (fun t k => XS.icmpNo X0.here hx rfl (hb hby d1_4) rfl (tlt hb1).2.1 k) ?_
    show Goes p e below QQ (s₁.setTop (mkF m 7 #[iv p1, iv p2, iv p3, iv p4, iv p5, .unset, .unset, .unset, .unset, .unset] []))
    refine Goes.on (fun t k => XS.iload X0.here hx rfl (hb hby d1_7) rfl k) ?_
    show Goes p e below QQ (s₁.setTop (mkF m 9 #[iv p1, iv p2, iv p3, iv p4, iv p5, .unset, .unset, .unset, .unset, .unset] [(.int p5)]))
    refine Goes.on (fun t k => XS.iconst X0.here hx rfl (hb hby d1_9) k) ?_
    show Goes p e below QQ (s₁.setTop (mkF m 10 #[iv p1, iv p2, iv p3, iv p4, iv p5, .unset, .unset, .unset, .unset, .unset] [(.int 1), (.int p5)]))
    by_cases hb2 : p5 < (1 : Int32)
    · refine Goes.on (fun t k => XS.icmpYes X0.here hx rfl (pc0 := 10) (pc' := 17) rfl (hb hby d1_10) rfl (tlt hb2).1 (by decide) (by decide) k) ?_
      show Goes p e below QQ (s₁.setTop (mkF m 17 #[iv p1, iv p2, iv p3, iv p4, iv p5, .unset, .unset, .unset, .unset, .unset] []))
      refine Goes.on (fun t k => XS.iconst X0.here hx rfl (hb hby d1_17) k) ?_
      show Goes p e below QQ (s₁.setTop (mkF m 18 #[iv p1, iv p2, iv p3, iv p4, iv p5, .unset, .unset, .unset, .unset, .unset] [(.int 0)]))
      exact Goes.rI X0 hx hret hlk (hb hby d1_18) hQQ ⟨congrArg (fun z => some (Value.int z)) (((if_pos hb1).trans ((if_pos hb2).trans rfl)) : (expF p1 p2 p3 p4 p5) = (0 : Int32)).symm, N0, e0⟩ (by decide) (by decide)
    · refine Goes.on (fun t k => XS.icmpNo X0.here hx rfl (hb hby d1_10) rfl (flt hb2).1 k) ?_
      show Goes p e below QQ (s₁.setTop (mkF m 13 #[iv p1, iv p2, iv p3, iv p4, iv p5, .unset, .unset, .unset, .unset, .unset] []))
      refine Goes.on (fun t k => XS.iconst X0.here hx rfl (hb hby d1_13) k) ?_
      show Goes p e below QQ (s₁.setTop (mkF m 14 #[iv p1, iv p2, iv p3, iv p4, iv p5, .unset, .unset, .unset, .unset, .unset] [(.int 1)]))
      refine Goes.on (fun t k => XS.goto X0.here hx rfl (pc0 := 14) (pc' := 18) rfl (hb hby d1_14) (by decide) (by decide) k) ?_
      show Goes p e below QQ (s₁.setTop (mkF m 18 #[iv p1, iv p2, iv p3, iv p4, iv p5, .unset, .unset, .unset, .unset, .unset] [(.int 1)]))
      exact Goes.rI X0 hx hret hlk (hb hby d1_18) hQQ ⟨congrArg (fun z => some (Value.int z)) (((if_pos hb1).trans ((if_neg hb2).trans rfl)) : (expF p1 p2 p3 p4 p5) = (1 : Int32)).symm, N0, e0⟩ (by decide) (by decide)
  · refine Goes.on (fun t k => XS.icmpYes X0.here hx rfl (pc0 := 4) (pc' := 19) rfl (hb hby d1_4) rfl (flt hb1).2.1 (by decide) (by decide) k) ?_
    show Goes p e below QQ (s₁.setTop (mkF m 19 #[iv p1, iv p2, iv p3, iv p4, iv p5, .unset, .unset, .unset, .unset, .unset] []))
    refine Goes.on (fun t k => XS.iloadN X0.here hx rfl (hb hby d1_19) rfl k) ?_
    show Goes p e below QQ (s₁.setTop (mkF m 20 #[iv p1, iv p2, iv p3, iv p4, iv p5, .unset, .unset, .unset, .unset, .unset] [(.int p1)]))
    refine Goes.on (fun t k => XS.sipush X0.here hx rfl (hb hby d1_20) k) ?_
    show Goes p e below QQ (s₁.setTop (mkF m 23 #[iv p1, iv p2, iv p3, iv p4, iv p5, .unset, .unset, .unset, .unset, .unset] [(.int 224), (.int p1)]))
    refine Goes.on (fun t k => XS.iand X0.here hx rfl (hb hby d1_23) rfl k) ?_
    show Goes p e below QQ (s₁.setTop (mkF m 24 #[iv p1, iv p2, iv p3, iv p4, iv p5, .unset, .unset, .unset, .unset, .unset] [(.int (p1 &&& (224 : Int32)))]))
    refine Goes.on (fun t k => XS.sipush X0.here hx rfl (hb hby d1_24) k) ?_
    show Goes p e below QQ (s₁.setTop (mkF m 27 #[iv p1, iv p2, iv p3, iv p4, iv p5, .unset, .unset, .unset, .unset, .unset] [(.int 192), (.int (p1 &&& (224 : Int32)))]))
    by_cases hb3 : (p1 &&& (224 : Int32)) = (192 : Int32)
    · refine Goes.on (fun t k => XS.icmpNo X0.here hx rfl (hb hby d1_27) rfl (teq hb3).2 k) ?_
      show Goes p e below QQ (s₁.setTop (mkF m 30 #[iv p1, iv p2, iv p3, iv p4, iv p5, .unset, .unset, .unset, .unset, .unset] []))
      refine Goes.on (fun t k => XS.iconst X0.here hx rfl (hb hby d1_30) k) ?_
      show Goes p e below QQ (s₁.setTop (mkF m 31 #[iv p1, iv p2, iv p3, iv p4, iv p5, .unset, .unset, .unset, .unset, .unset] [(.int 2)]))
      refine Goes.on (fun t k => XS.istore X0.here hx rfl (hb hby d1_31) rfl (l' := #[iv p1, iv p2, iv p3, iv p4, iv p5, iv 2, .unset, .unset, .unset, .unset]) rfl k) ?_
      show Goes p e below QQ (s₁.setTop (mkF m 33 #[iv p1, iv p2, iv p3, iv p4, iv p5, iv 2, .unset, .unset, .unset, .unset] []))
      refine Goes.on (fun t k => XS.iloadN X0.here hx rfl (hb hby d1_33) rfl k) ?_
      show Goes p e below QQ (s₁.setTop (mkF m 34 #[iv p1, iv p2, iv p3, iv p4, iv p5, iv 2, .unset, .unset, .unset, .unset] [(.int p1)]))
      refine Goes.on (fun t k => XS.bipush X0.here hx rfl (hb hby d1_34) k) ?_
      show Goes p e below QQ (s₁.setTop (mkF m 36 #[iv p1, iv p2, iv p3, iv p4, iv p5, iv 2, .unset, .unset, .unset, .unset] [(.int 31), (.int p1)]))
      refine Goes.on (fun t k => XS.iand X0.here hx rfl (hb hby d1_36) rfl k) ?_
      show Goes p e below QQ (s₁.setTop (mkF m 37 #[iv p1, iv p2, iv p3, iv p4, iv p5, iv 2, .unset, .unset, .unset, .unset] [(.int (p1 &&& (31 : Int32)))]))
      refine Goes.on (fun t k => XS.bipush X0.here hx rfl (hb hby d1_37) k) ?_
      show Goes p e below QQ (s₁.setTop (mkF m 39 #[iv p1, iv p2, iv p3, iv p4, iv p5, iv 2, .unset, .unset, .unset, .unset] [(.int 6), (.int (p1 &&& (31 : Int32)))]))
      refine Goes.on (fun t k => XS.ishl X0.here hx rfl (hb hby d1_39) rfl k) ?_
      show Goes p e below QQ (s₁.setTop (mkF m 40 #[iv p1, iv p2, iv p3, iv p4, iv p5, iv 2, .unset, .unset, .unset, .unset] [(.int ((p1 &&& (31 : Int32)) <<< ((6 : Int32) &&& 31)))]))
      refine Goes.on (fun t k => XS.iloadN X0.here hx rfl (hb hby d1_40) rfl k) ?_
      show Goes p e below QQ (s₁.setTop (mkF m 41 #[iv p1, iv p2, iv p3, iv p4, iv p5, iv 2, .unset, .unset, .unset, .unset] [(.int p2), (.int ((p1 &&& (31 : Int32)) <<< ((6 : Int32) &&& 31)))]))
      refine Goes.on (fun t k => XS.bipush X0.here hx rfl (hb hby d1_41) k) ?_
      show Goes p e below QQ (s₁.setTop (mkF m 43 #[iv p1, iv p2, iv p3, iv p4, iv p5, iv 2, .unset, .unset, .unset, .unset] [(.int 63), (.int p2), (.int ((p1 &&& (31 : Int32)) <<< ((6 : Int32) &&& 31)))]))
      refine Goes.on (fun t k => XS.iand X0.here hx rfl (hb hby d1_43) rfl k) ?_
      show Goes p e below QQ (s₁.setTop (mkF m 44 #[iv p1, iv p2, iv p3, iv p4, iv p5, iv 2, .unset, .unset, .unset, .unset] [(.int (p2 &&& (63 : Int32))), (.int ((p1 &&& (31 : Int32)) <<< ((6 : Int32) &&& 31)))]))
      refine Goes.on (fun t k => XS.ior X0.here hx rfl (hb hby d1_44) rfl k) ?_
      show Goes p e below QQ (s₁.setTop (mkF m 45 #[iv p1, iv p2, iv p3, iv p4, iv p5, iv 2, .unset, .unset, .unset, .unset] [(.int (((p1 &&& (31 : Int32)) <<< ((6 : Int32) &&& 31)) ||| (p2 &&& (63 : Int32))))]))
      refine Goes.on (fun t k => XS.istore X0.here hx rfl (hb hby d1_45) rfl (l' := #[iv p1, iv p2, iv p3, iv p4, iv p5, iv 2, iv (((p1 &&& (31 : Int32)) <<< ((6 : Int32) &&& 31)) ||| (p2 &&& (63 : Int32))), .unset, .unset, .unset]) rfl k) ?_
      show Goes p e below QQ (s₁.setTop (mkF m 47 #[iv p1, iv p2, iv p3, iv p4, iv p5, iv 2, iv (((p1 &&& (31 : Int32)) <<< ((6 : Int32) &&& 31)) ||| (p2 &&& (63 : Int32))), .unset, .unset, .unset] []))
      refine Goes.on (fun t k => XS.sipush X0.here hx rfl (hb hby d1_47) k) ?_
      show Goes p e below QQ (s₁.setTop (mkF m 50 #[iv p1, iv p2, iv p3, iv p4, iv p5, iv 2, iv (((p1 &&& (31 : Int32)) <<< ((6 : Int32) &&& 31)) ||| (p2 &&& (63 : Int32))), .unset, .unset, .unset] [(.int 128)]))
      refine Goes.on (fun t k => XS.istore X0.here hx rfl (hb hby d1_50) rfl (l' := #[iv p1, iv p2, iv p3, iv p4, iv p5, iv 2, iv (((p1 &&& (31 : Int32)) <<< ((6 : Int32) &&& 31)) ||| (p2 &&& (63 : Int32))), iv 128, .unset, .unset]) rfl k) ?_
      show Goes p e below QQ (s₁.setTop (mkF m 52 #[iv p1, iv p2, iv p3, iv p4, iv p5, iv 2, iv (((p1 &&& (31 : Int32)) <<< ((6 : Int32) &&& 31)) ||| (p2 &&& (63 : Int32))), iv 128, .unset, .unset] []))
      refine Goes.on (fun t k => XS.goto X0.here hx rfl (pc0 := 52) (pc' := 152) rfl (hb hby d1_52) (by decide) (by decide) k) ?_
      show Goes p e below QQ (s₁.setTop (mkF m 152 #[iv p1, iv p2, iv p3, iv p4, iv p5, iv 2, iv (((p1 &&& (31 : Int32)) <<< ((6 : Int32) &&& 31)) ||| (p2 &&& (63 : Int32))), iv 128, .unset, .unset] []))
      refine Goes.on (fun t k => XS.iload X0.here hx rfl (hb hby d1_152) rfl k) ?_
      show Goes p e below QQ (s₁.setTop (mkF m 154 #[iv p1, iv p2, iv p3, iv p4, iv p5, iv 2, iv (((p1 &&& (31 : Int32)) <<< ((6 : Int32) &&& 31)) ||| (p2 &&& (63 : Int32))), iv 128, .unset, .unset] [(.int p5)]))
      refine Goes.on (fun t k => XS.iload X0.here hx rfl (hb hby d1_154) rfl k) ?_
      show Goes p e below QQ (s₁.setTop (mkF m 156 #[iv p1, iv p2, iv p3, iv p4, iv p5, iv 2, iv (((p1 &&& (31 : Int32)) <<< ((6 : Int32) &&& 31)) ||| (p2 &&& (63 : Int32))), iv 128, .unset, .unset] [(.int 2), (.int p5)]))
      by_cases hb4 : p5 < (2 : Int32)
      · refine Goes.on (fun t k => XS.icmpNo X0.here hx rfl (hb hby d1_156) rfl (tlt hb4).2.1 k) ?_
        show Goes p e below QQ (s₁.setTop (mkF m 159 #[iv p1, iv p2, iv p3, iv p4, iv p5, iv 2, iv (((p1 &&& (31 : Int32)) <<< ((6 : Int32) &&& 31)) ||| (p2 &&& (63 : Int32))), iv 128, .unset, .unset] []))
        refine Goes.on (fun t k => XS.iconst X0.here hx rfl (hb hby d1_159) k) ?_
        show Goes p e below QQ (s₁.setTop (mkF m 160 #[iv p1, iv p2, iv p3, iv p4, iv p5, iv 2, iv (((p1 &&& (31 : Int32)) <<< ((6 : Int32) &&& 31)) ||| (p2 &&& (63 : Int32))), iv 128, .unset, .unset] [(.int 0)]))
        exact Goes.rI X0 hx hret hlk (hb hby d1_160) hQQ ⟨congrArg (fun z => some (Value.int z)) (((if_neg hb1).trans ((if_pos hb3).trans ((if_pos hb4).trans rfl))) : (expF p1 p2 p3 p4 p5) = (0 : Int32)).symm, N0, e0⟩ (by decide) (by decide)
      · refine Goes.on (fun t k => XS.icmpYes X0.here hx rfl (pc0 := 156) (pc' := 161) rfl (hb hby d1_156) rfl (flt hb4).2.1 (by decide) (by decide) k) ?_
        show Goes p e below QQ (s₁.setTop (mkF m 161 #[iv p1, iv p2, iv p3, iv p4, iv p5, iv 2, iv (((p1 &&& (31 : Int32)) <<< ((6 : Int32) &&& 31)) ||| (p2 &&& (63 : Int32))), iv 128, .unset, .unset] []))
        refine Goes.on (fun t k => XS.iloadN X0.here hx rfl (hb hby d1_161) rfl k) ?_
        show Goes p e below QQ (s₁.setTop (mkF m 162 #[iv p1, iv p2, iv p3, iv p4, iv p5, iv 2, iv (((p1 &&& (31 : Int32)) <<< ((6 : Int32) &&& 31)) ||| (p2 &&& (63 : Int32))), iv 128, .unset, .unset] [(.int p2)]))
        obtain ⟨_, _, ⟨T5, L5, k5, n5⟩, -, X5, ⟨Lc5, hQ5, l5, y5, z5⟩, st5⟩ := Jvm.LawKit.callS X0 hx (y := (⟨"com/example/sober_links/soberlinks/io/Utf8SequenceLengthPinLaw", "cont", "(I)Z"⟩ : MethodName)) hown (mvT hZ (hw _ (List.mem_of_getElem? (i := 10) rfl))) (mvT hZ (hw _ (List.mem_of_getElem? (i := 11) rfl))) (mvT hZ (hw _ (List.mem_of_getElem? (i := 4) rfl))) (mvT hZ (hw _ (List.mem_of_getElem? (i := 12) rfl))) (by decide) (backOf (W := 0) (rm1 l Z a0 hw [] p2 h0 n0 (Nat.le_trans Z0 K0.1) ) hZ (hw _ (List.mem_of_getElem? (i := 12) rfl)) (hw _ (List.mem_of_getElem? (i := 4) rfl)) (by decide) (by decide)) (g := (mkF m 162 #[iv p1, iv p2, iv p3, iv p4, iv p5, iv 2, iv (((p1 &&& (31 : Int32)) <<< ((6 : Int32) &&& 31)) ||| (p2 &&& (63 : Int32))), iv 128, .unset, .unset] [(.int p2)])) rfl (by rw [hml]; rfl) (argsL := [(.int p2)]) (rest := []) (lenOf pd_0 rfl) rfl (by show 2 * 0 + _ ≤ _; exact Nat.le_of_eq rfl) (hb hby d1_162) (fun _ _ => ⟨rfl, e0, (by decide : 0 + 0 ≤ _), (by decide : 0 + 0 ≤ _)⟩)
        dsimp only [Pt.U, Pt.locs, Pt.cells, Pt.slots] at X5 l5 y5 z5 st5 hQ5
        subst l5 y5 z5
        obtain ⟨rfl, M5, e5⟩ := hQ5
        have N5 := Fr.app N0 M5
        refine Goes.on (fun t k => st5 _ k) ?_
        show Goes p e below QQ (T5.setTop (mkF m 165 #[iv p1, iv p2, iv p3, iv p4, iv p5, iv 2, iv (((p1 &&& (31 : Int32)) <<< ((6 : Int32) &&& 31)) ||| (p2 &&& (63 : Int32))), iv 128, .unset, .unset] [(.int (contF p2))]))
        have J6 : ∀ (TJ6 : State) (lJ6 : List Loc), Stand p l e ({ frames := 1, cells := 0, slots := 0, locals := 12 } : Room) s m #[(.int p1), (.int p2), (.int p3), (.int p4), (.int p5)] below meth c TJ6 lJ6 0 0 → TJ6.heap = h0 → Fr n0 lJ6 → Goes p e below QQ (TJ6.setTop (mkF m 199 #[iv p1, iv p2, iv p3, iv p4, iv p5, iv 2, iv (((p1 &&& (31 : Int32)) <<< ((6 : Int32) &&& 31)) ||| (p2 &&& (63 : Int32))), iv 128, .unset, .unset] [(.int (if (contF p2) = (0 : Int32) then (0 : Int32) else (1 : Int32)))])) := by
          intro TJ6 lJ6 XJ6 eJ6 NJ6
          refine Goes.on (fun t k => XS.istore XJ6.here hx rfl (hb hby d1_199) rfl (l' := #[iv p1, iv p2, iv p3, iv p4, iv p5, iv 2, iv (((p1 &&& (31 : Int32)) <<< ((6 : Int32) &&& 31)) ||| (p2 &&& (63 : Int32))), iv 128, iv (if (contF p2) = (0 : Int32) then (0 : Int32) else (1 : Int32)), .unset]) rfl k) ?_
          show Goes p e below QQ (TJ6.setTop (mkF m 201 #[iv p1, iv p2, iv p3, iv p4, iv p5, iv 2, iv (((p1 &&& (31 : Int32)) <<< ((6 : Int32) &&& 31)) ||| (p2 &&& (63 : Int32))), iv 128, iv (if (contF p2) = (0 : Int32) then (0 : Int32) else (1 : Int32)), .unset] []))
          refine Goes.on (fun t k => XS.iload XJ6.here hx rfl (hb hby d1_201) rfl k) ?_
          show Goes p e below QQ (TJ6.setTop (mkF m 203 #[iv p1, iv p2, iv p3, iv p4, iv p5, iv 2, iv (((p1 &&& (31 : Int32)) <<< ((6 : Int32) &&& 31)) ||| (p2 &&& (63 : Int32))), iv 128, iv (if (contF p2) = (0 : Int32) then (0 : Int32) else (1 : Int32)), .unset] [(.int (if (contF p2) = (0 : Int32) then (0 : Int32) else (1 : Int32)))]))
          have J7 : ∀ (TJ7 : State) (lJ7 : List Loc), Stand p l e ({ frames := 1, cells := 0, slots := 0, locals := 12 } : Room) s m #[(.int p1), (.int p2), (.int p3), (.int p4), (.int p5)] below meth c TJ7 lJ7 0 0 → TJ7.heap = h0 → Fr n0 lJ7 → Goes p e below QQ (TJ7.setTop (mkF m 239 #[iv p1, iv p2, iv p3, iv p4, iv p5, iv 2, iv (((p1 &&& (31 : Int32)) <<< ((6 : Int32) &&& 31)) ||| (p2 &&& (63 : Int32))), iv 128, iv (if (contF p2) = (0 : Int32) then (0 : Int32) else (1 : Int32)), .unset] [(.int (if (if (contF p2) = (0 : Int32) then (0 : Int32) else (1 : Int32)) = (0 : Int32) then (0 : Int32) else (if (((p1 &&& (31 : Int32)) <<< ((6 : Int32) &&& 31)) ||| (p2 &&& (63 : Int32))) < (128 : Int32) then (0 : Int32) else (if (1114111 : Int32) < (((p1 &&& (31 : Int32)) <<< ((6 : Int32) &&& 31)) ||| (p2 &&& (63 : Int32))) then (0 : Int32) else (if (((p1 &&& (31 : Int32)) <<< ((6 : Int32) &&& 31)) ||| (p2 &&& (63 : Int32))) < (55296 : Int32) then (1 : Int32) else (if (57343 : Int32) < (((p1 &&& (31 : Int32)) <<< ((6 : Int32) &&& 31)) ||| (p2 &&& (63 : Int32))) then (1 : Int32) else (0 : Int32)))))))])) := by
            intro TJ7 lJ7 XJ7 eJ7 NJ7
            refine Goes.on (fun t k => XS.istore XJ7.here hx rfl (hb hby d1_239) rfl (l' := #[iv p1, iv p2, iv p3, iv p4, iv p5, iv 2, iv (((p1 &&& (31 : Int32)) <<< ((6 : Int32) &&& 31)) ||| (p2 &&& (63 : Int32))), iv 128, iv (if (contF p2) = (0 : Int32) then (0 : Int32) else (1 : Int32)), iv (if (if (contF p2) = (0 : Int32) then (0 : Int32) else (1 : Int32)) = (0 : Int32) then (0 : Int32) else (if (((p1 &&& (31 : Int32)) <<< ((6 : Int32) &&& 31)) ||| (p2 &&& (63 : Int32))) < (128 : Int32) then (0 : Int32) else (if (1114111 : Int32) < (((p1 &&& (31 : Int32)) <<< ((6 : Int32) &&& 31)) ||| (p2 &&& (63 : Int32))) then (0 : Int32) else (if (((p1 &&& (31 : Int32)) <<< ((6 : Int32) &&& 31)) ||| (p2 &&& (63 : Int32))) < (55296 : Int32) then (1 : Int32) else (if (57343 : Int32) < (((p1 &&& (31 : Int32)) <<< ((6 : Int32) &&& 31)) ||| (p2 &&& (63 : Int32))) then (1 : Int32) else (0 : Int32))))))]) rfl k) ?_
            show Goes p e below QQ (TJ7.setTop (mkF m 241 #[iv p1, iv p2, iv p3, iv p4, iv p5, iv 2, iv (((p1 &&& (31 : Int32)) <<< ((6 : Int32) &&& 31)) ||| (p2 &&& (63 : Int32))), iv 128, iv (if (contF p2) = (0 : Int32) then (0 : Int32) else (1 : Int32)), iv (if (if (contF p2) = (0 : Int32) then (0 : Int32) else (1 : Int32)) = (0 : Int32) then (0 : Int32) else (if (((p1 &&& (31 : Int32)) <<< ((6 : Int32) &&& 31)) ||| (p2 &&& (63 : Int32))) < (128 : Int32) then (0 : Int32) else (if (1114111 : Int32) < (((p1 &&& (31 : Int32)) <<< ((6 : Int32) &&& 31)) ||| (p2 &&& (63 : Int32))) then (0 : Int32) else (if (((p1 &&& (31 : Int32)) <<< ((6 : Int32) &&& 31)) ||| (p2 &&& (63 : Int32))) < (55296 : Int32) then (1 : Int32) else (if (57343 : Int32) < (((p1 &&& (31 : Int32)) <<< ((6 : Int32) &&& 31)) ||| (p2 &&& (63 : Int32))) then (1 : Int32) else (0 : Int32))))))] []))
            refine Goes.on (fun t k => XS.iload XJ7.here hx rfl (hb hby d1_241) rfl k) ?_
            show Goes p e below QQ (TJ7.setTop (mkF m 243 #[iv p1, iv p2, iv p3, iv p4, iv p5, iv 2, iv (((p1 &&& (31 : Int32)) <<< ((6 : Int32) &&& 31)) ||| (p2 &&& (63 : Int32))), iv 128, iv (if (contF p2) = (0 : Int32) then (0 : Int32) else (1 : Int32)), iv (if (if (contF p2) = (0 : Int32) then (0 : Int32) else (1 : Int32)) = (0 : Int32) then (0 : Int32) else (if (((p1 &&& (31 : Int32)) <<< ((6 : Int32) &&& 31)) ||| (p2 &&& (63 : Int32))) < (128 : Int32) then (0 : Int32) else (if (1114111 : Int32) < (((p1 &&& (31 : Int32)) <<< ((6 : Int32) &&& 31)) ||| (p2 &&& (63 : Int32))) then (0 : Int32) else (if (((p1 &&& (31 : Int32)) <<< ((6 : Int32) &&& 31)) ||| (p2 &&& (63 : Int32))) < (55296 : Int32) then (1 : Int32) else (if (57343 : Int32) < (((p1 &&& (31 : Int32)) <<< ((6 : Int32) &&& 31)) ||| (p2 &&& (63 : Int32))) then (1 : Int32) else (0 : Int32))))))] [(.int (if (if (contF p2) = (0 : Int32) then (0 : Int32) else (1 : Int32)) = (0 : Int32) then (0 : Int32) else (if (((p1 &&& (31 : Int32)) <<< ((6 : Int32) &&& 31)) ||| (p2 &&& (63 : Int32))) < (128 : Int32) then (0 : Int32) else (if (1114111 : Int32) < (((p1 &&& (31 : Int32)) <<< ((6 : Int32) &&& 31)) ||| (p2 &&& (63 : Int32))) then (0 : Int32) else (if (((p1 &&& (31 : Int32)) <<< ((6 : Int32) &&& 31)) ||| (p2 &&& (63 : Int32))) < (55296 : Int32) then (1 : Int32) else (if (57343 : Int32) < (((p1 &&& (31 : Int32)) <<< ((6 : Int32) &&& 31)) ||| (p2 &&& (63 : Int32))) then (1 : Int32) else (0 : Int32)))))))]))
            by_cases hb8 : (if (if (contF p2) = (0 : Int32) then (0 : Int32) else (1 : Int32)) = (0 : Int32) then (0 : Int32) else (if (((p1 &&& (31 : Int32)) <<< ((6 : Int32) &&& 31)) ||| (p2 &&& (63 : Int32))) < (128 : Int32) then (0 : Int32) else (if (1114111 : Int32) < (((p1 &&& (31 : Int32)) <<< ((6 : Int32) &&& 31)) ||| (p2 &&& (63 : Int32))) then (0 : Int32) else (if (((p1 &&& (31 : Int32)) <<< ((6 : Int32) &&& 31)) ||| (p2 &&& (63 : Int32))) < (55296 : Int32) then (1 : Int32) else (if (57343 : Int32) < (((p1 &&& (31 : Int32)) <<< ((6 : Int32) &&& 31)) ||| (p2 &&& (63 : Int32))) then (1 : Int32) else (0 : Int32)))))) = (0 : Int32)
            · refine Goes.on (fun t k => XS.ifYes XJ7.here hx rfl (pc0 := 243) (pc' := 251) rfl (hb hby d1_243) rfl ((if0 _ _).trans (teq hb8).1) (by decide) (by decide) k) ?_
              show Goes p e below QQ (TJ7.setTop (mkF m 251 #[iv p1, iv p2, iv p3, iv p4, iv p5, iv 2, iv (((p1 &&& (31 : Int32)) <<< ((6 : Int32) &&& 31)) ||| (p2 &&& (63 : Int32))), iv 128, iv (if (contF p2) = (0 : Int32) then (0 : Int32) else (1 : Int32)), iv (if (if (contF p2) = (0 : Int32) then (0 : Int32) else (1 : Int32)) = (0 : Int32) then (0 : Int32) else (if (((p1 &&& (31 : Int32)) <<< ((6 : Int32) &&& 31)) ||| (p2 &&& (63 : Int32))) < (128 : Int32) then (0 : Int32) else (if (1114111 : Int32) < (((p1 &&& (31 : Int32)) <<< ((6 : Int32) &&& 31)) ||| (p2 &&& (63 : Int32))) then (0 : Int32) else (if (((p1 &&& (31 : Int32)) <<< ((6 : Int32) &&& 31)) ||| (p2 &&& (63 : Int32))) < (55296 : Int32) then (1 : Int32) else (if (57343 : Int32) < (((p1 &&& (31 : Int32)) <<< ((6 : Int32) &&& 31)) ||| (p2 &&& (63 : Int32))) then (1 : Int32) else (0 : Int32))))))] []))
              refine Goes.on (fun t k => XS.iconst XJ7.here hx rfl (hb hby d1_251) k) ?_
              show Goes p e below QQ (TJ7.setTop (mkF m 252 #[iv p1, iv p2, iv p3, iv p4, iv p5, iv 2, iv (((p1 &&& (31 : Int32)) <<< ((6 : Int32) &&& 31)) ||| (p2 &&& (63 : Int32))), iv 128, iv (if (contF p2) = (0 : Int32) then (0 : Int32) else (1 : Int32)), iv (if (if (contF p2) = (0 : Int32) then (0 : Int32) else (1 : Int32)) = (0 : Int32) then (0 : Int32) else (if (((p1 &&& (31 : Int32)) <<< ((6 : Int32) &&& 31)) ||| (p2 &&& (63 : Int32))) < (128 : Int32) then (0 : Int32) else (if (1114111 : Int32) < (((p1 &&& (31 : Int32)) <<< ((6 : Int32) &&& 31)) ||| (p2 &&& (63 : Int32))) then (0 : Int32) else (if (((p1 &&& (31 : Int32)) <<< ((6 : Int32) &&& 31)) ||| (p2 &&& (63 : Int32))) < (55296 : Int32) then (1 : Int32) else (if (57343 : Int32) < (((p1 &&& (31 : Int32)) <<< ((6 : Int32) &&& 31)) ||| (p2 &&& (63 : Int32))) then (1 : Int32) else (0 : Int32))))))] [(.int 0)]))
              exact Goes.rI XJ7 hx hret hlk (hb hby d1_252) hQQ ⟨congrArg (fun z => some (Value.int z)) (((if_neg hb1).trans ((if_pos hb3).trans ((if_neg hb4).trans ((if_pos hb8).trans rfl)))) : (expF p1 p2 p3 p4 p5) = (0 : Int32)).symm, NJ7, eJ7⟩ (by decide) (by decide)
            · refine Goes.on (fun t k => XS.ifNo XJ7.here hx rfl (hb hby d1_243) rfl ((if0 _ _).trans (feq hb8).1) k) ?_
              show Goes p e below QQ (TJ7.setTop (mkF m 246 #[iv p1, iv p2, iv p3, iv p4, iv p5, iv 2, iv (((p1 &&& (31 : Int32)) <<< ((6 : Int32) &&& 31)) ||| (p2 &&& (63 : Int32))), iv 128, iv (if (contF p2) = (0 : Int32) then (0 : Int32) else (1 : Int32)), iv (if (if (contF p2) = (0 : Int32) then (0 : Int32) else (1 : Int32)) = (0 : Int32) then (0 : Int32) else (if (((p1 &&& (31 : Int32)) <<< ((6 : Int32) &&& 31)) ||| (p2 &&& (63 : Int32))) < (128 : Int32) then (0 : Int32) else (if (1114111 : Int32) < (((p1 &&& (31 : Int32)) <<< ((6 : Int32) &&& 31)) ||| (p2 &&& (63 : Int32))) then (0 : Int32) else (if (((p1 &&& (31 : Int32)) <<< ((6 : Int32) &&& 31)) ||| (p2 &&& (63 : Int32))) < (55296 : Int32) then (1 : Int32) else (if (57343 : Int32) < (((p1 &&& (31 : Int32)) <<< ((6 : Int32) &&& 31)) ||| (p2 &&& (63 : Int32))) then (1 : Int32) else (0 : Int32))))))] []))
              refine Goes.on (fun t k => XS.iload XJ7.here hx rfl (hb hby d1_246) rfl k) ?_
              show Goes p e below QQ (TJ7.setTop (mkF m 248 #[iv p1, iv p2, iv p3, iv p4, iv p5, iv 2, iv (((p1 &&& (31 : Int32)) <<< ((6 : Int32) &&& 31)) ||| (p2 &&& (63 : Int32))), iv 128, iv (if (contF p2) = (0 : Int32) then (0 : Int32) else (1 : Int32)), iv (if (if (contF p2) = (0 : Int32) then (0 : Int32) else (1 : Int32)) = (0 : Int32) then (0 : Int32) else (if (((p1 &&& (31 : Int32)) <<< ((6 : Int32) &&& 31)) ||| (p2 &&& (63 : Int32))) < (128 : Int32) then (0 : Int32) else (if (1114111 : Int32) < (((p1 &&& (31 : Int32)) <<< ((6 : Int32) &&& 31)) ||| (p2 &&& (63 : Int32))) then (0 : Int32) else (if (((p1 &&& (31 : Int32)) <<< ((6 : Int32) &&& 31)) ||| (p2 &&& (63 : Int32))) < (55296 : Int32) then (1 : Int32) else (if (57343 : Int32) < (((p1 &&& (31 : Int32)) <<< ((6 : Int32) &&& 31)) ||| (p2 &&& (63 : Int32))) then (1 : Int32) else (0 : Int32))))))] [(.int 2)]))
              refine Goes.on (fun t k => XS.goto XJ7.here hx rfl (pc0 := 248) (pc' := 252) rfl (hb hby d1_248) (by decide) (by decide) k) ?_
              show Goes p e below QQ (TJ7.setTop (mkF m 252 #[iv p1, iv p2, iv p3, iv p4, iv p5, iv 2, iv (((p1 &&& (31 : Int32)) <<< ((6 : Int32) &&& 31)) ||| (p2 &&& (63 : Int32))), iv 128, iv (if (contF p2) = (0 : Int32) then (0 : Int32) else (1 : Int32)), iv (if (if (contF p2) = (0 : Int32) then (0 : Int32) else (1 : Int32)) = (0 : Int32) then (0 : Int32) else (if (((p1 &&& (31 : Int32)) <<< ((6 : Int32) &&& 31)) ||| (p2 &&& (63 : Int32))) < (128 : Int32) then (0 : Int32) else (if (1114111 : Int32) < (((p1 &&& (31 : Int32)) <<< ((6 : Int32) &&& 31)) ||| (p2 &&& (63 : Int32))) then (0 : Int32) else (if (((p1 &&& (31 : Int32)) <<< ((6 : Int32) &&& 31)) ||| (p2 &&& (63 : Int32))) < (55296 : Int32) then (1 : Int32) else (if (57343 : Int32) < (((p1 &&& (31 : Int32)) <<< ((6 : Int32) &&& 31)) ||| (p2 &&& (63 : Int32))) then (1 : Int32) else (0 : Int32))))))] [(.int 2)]))
              exact Goes.rI XJ7 hx hret hlk (hb hby d1_252) hQQ ⟨congrArg (fun z => some (Value.int z)) (((if_neg hb1).trans ((if_pos hb3).trans ((if_neg hb4).trans ((if_neg hb8).trans rfl)))) : (expF p1 p2 p3 p4 p5) = (2 : Int32)).symm, NJ7, eJ7⟩ (by decide) (by decide)
          show Goes p e below QQ (TJ6.setTop (mkF m 203 #[iv p1, iv p2, iv p3, iv p4, iv p5, iv 2, iv (((p1 &&& (31 : Int32)) <<< ((6 : Int32) &&& 31)) ||| (p2 &&& (63 : Int32))), iv 128, iv (if (contF p2) = (0 : Int32) then (0 : Int32) else (1 : Int32)), .unset] [(.int (if (contF p2) = (0 : Int32) then (0 : Int32) else (1 : Int32)))]))
          by_cases hb9 : (if (contF p2) = (0 : Int32) then (0 : Int32) else (1 : Int32)) = (0 : Int32)
          · refine Goes.on (fun t k => XS.ifYes XJ6.here hx rfl (pc0 := 203) (pc' := 238) rfl (hb hby d1_203) rfl ((if0 _ _).trans (teq hb9).1) (by decide) (by decide) k) ?_
            show Goes p e below QQ (TJ6.setTop (mkF m 238 #[iv p1, iv p2, iv p3, iv p4, iv p5, iv 2, iv (((p1 &&& (31 : Int32)) <<< ((6 : Int32) &&& 31)) ||| (p2 &&& (63 : Int32))), iv 128, iv (if (contF p2) = (0 : Int32) then (0 : Int32) else (1 : Int32)), .unset] []))
            refine Goes.on (fun t k => XS.iconst XJ6.here hx rfl (hb hby d1_238) k) ?_
            show Goes p e below QQ (TJ6.setTop (mkF m 239 #[iv p1, iv p2, iv p3, iv p4, iv p5, iv 2, iv (((p1 &&& (31 : Int32)) <<< ((6 : Int32) &&& 31)) ||| (p2 &&& (63 : Int32))), iv 128, iv (if (contF p2) = (0 : Int32) then (0 : Int32) else (1 : Int32)), .unset] [(.int 0)]))
            rw [(((if_pos hb9).trans rfl) : (if (if (contF p2) = (0 : Int32) then (0 : Int32) else (1 : Int32)) = (0 : Int32) then (0 : Int32) else (if (((p1 &&& (31 : Int32)) <<< ((6 : Int32) &&& 31)) ||| (p2 &&& (63 : Int32))) < (128 : Int32) then (0 : Int32) else (if (1114111 : Int32) < (((p1 &&& (31 : Int32)) <<< ((6 : Int32) &&& 31)) ||| (p2 &&& (63 : Int32))) then (0 : Int32) else (if (((p1 &&& (31 : Int32)) <<< ((6 : Int32) &&& 31)) ||| (p2 &&& (63 : Int32))) < (55296 : Int32) then (1 : Int32) else (if (57343 : Int32) < (((p1 &&& (31 : Int32)) <<< ((6 : Int32) &&& 31)) ||| (p2 &&& (63 : Int32))) then (1 : Int32) else (0 : Int32)))))) = (0 : Int32))] at J7
            exact J7 _ _ XJ6 eJ6 NJ6
          · refine Goes.on (fun t k => XS.ifNo XJ6.here hx rfl (hb hby d1_203) rfl ((if0 _ _).trans (feq hb9).1) k) ?_
            show Goes p e below QQ (TJ6.setTop (mkF m 206 #[iv p1, iv p2, iv p3, iv p4, iv p5, iv 2, iv (((p1 &&& (31 : Int32)) <<< ((6 : Int32) &&& 31)) ||| (p2 &&& (63 : Int32))), iv 128, iv (if (contF p2) = (0 : Int32) then (0 : Int32) else (1 : Int32)), .unset] []))
            refine Goes.on (fun t k => XS.iload XJ6.here hx rfl (hb hby d1_206) rfl k) ?_
            show Goes p e below QQ (TJ6.setTop (mkF m 208 #[iv p1, iv p2, iv p3, iv p4, iv p5, iv 2, iv (((p1 &&& (31 : Int32)) <<< ((6 : Int32) &&& 31)) ||| (p2 &&& (63 : Int32))), iv 128, iv (if (contF p2) = (0 : Int32) then (0 : Int32) else (1 : Int32)), .unset] [(.int (((p1 &&& (31 : Int32)) <<< ((6 : Int32) &&& 31)) ||| (p2 &&& (63 : Int32))))]))
            refine Goes.on (fun t k => XS.iload XJ6.here hx rfl (hb hby d1_208) rfl k) ?_
            show Goes p e below QQ (TJ6.setTop (mkF m 210 #[iv p1, iv p2, iv p3, iv p4, iv p5, iv 2, iv (((p1 &&& (31 : Int32)) <<< ((6 : Int32) &&& 31)) ||| (p2 &&& (63 : Int32))), iv 128, iv (if (contF p2) = (0 : Int32) then (0 : Int32) else (1 : Int32)), .unset] [(.int 128), (.int (((p1 &&& (31 : Int32)) <<< ((6 : Int32) &&& 31)) ||| (p2 &&& (63 : Int32))))]))
            by_cases hb10 : (((p1 &&& (31 : Int32)) <<< ((6 : Int32) &&& 31)) ||| (p2 &&& (63 : Int32))) < (128 : Int32)
            · refine Goes.on (fun t k => XS.icmpYes XJ6.here hx rfl (pc0 := 210) (pc' := 238) rfl (hb hby d1_210) rfl (tlt hb10).1 (by decide) (by decide) k) ?_
              show Goes p e below QQ (TJ6.setTop (mkF m 238 #[iv p1, iv p2, iv p3, iv p4, iv p5, iv 2, iv (((p1 &&& (31 : Int32)) <<< ((6 : Int32) &&& 31)) ||| (p2 &&& (63 : Int32))), iv 128, iv (if (contF p2) = (0 : Int32) then (0 : Int32) else (1 : Int32)), .unset] []))
              refine Goes.on (fun t k => XS.iconst XJ6.here hx rfl (hb hby d1_238) k) ?_
              show Goes p e below QQ (TJ6.setTop (mkF m 239 #[iv p1, iv p2, iv p3, iv p4, iv p5, iv 2, iv (((p1 &&& (31 : Int32)) <<< ((6 : Int32) &&& 31)) ||| (p2 &&& (63 : Int32))), iv 128, iv (if (contF p2) = (0 : Int32) then (0 : Int32) else (1 : Int32)), .unset] [(.int 0)]))
              rw [(((if_neg hb9).trans ((if_pos hb10).trans rfl)) : (if (if (contF p2) = (0 : Int32) then (0 : Int32) else (1 : Int32)) = (0 : Int32) then (0 : Int32) else (if (((p1 &&& (31 : Int32)) <<< ((6 : Int32) &&& 31)) ||| (p2 &&& (63 : Int32))) < (128 : Int32) then (0 : Int32) else (if (1114111 : Int32) < (((p1 &&& (31 : Int32)) <<< ((6 : Int32) &&& 31)) ||| (p2 &&& (63 : Int32))) then (0 : Int32) else (if (((p1 &&& (31 : Int32)) <<< ((6 : Int32) &&& 31)) ||| (p2 &&& (63 : Int32))) < (55296 : Int32) then (1 : Int32) else (if (57343 : Int32) < (((p1 &&& (31 : Int32)) <<< ((6 : Int32) &&& 31)) ||| (p2 &&& (63 : Int32))) then (1 : Int32) else (0 : Int32)))))) = (0 : Int32))] at J7
              exact J7 _ _ XJ6 eJ6 NJ6
            · refine Goes.on (fun t k => XS.icmpNo XJ6.here hx rfl (hb hby d1_210) rfl (flt hb10).1 k) ?_
              show Goes p e below QQ (TJ6.setTop (mkF m 213 #[iv p1, iv p2, iv p3, iv p4, iv p5, iv 2, iv (((p1 &&& (31 : Int32)) <<< ((6 : Int32) &&& 31)) ||| (p2 &&& (63 : Int32))), iv 128, iv (if (contF p2) = (0 : Int32) then (0 : Int32) else (1 : Int32)), .unset] []))
              refine Goes.on (fun t k => XS.iload XJ6.here hx rfl (hb hby d1_213) rfl k) ?_
              show Goes p e below QQ (TJ6.setTop (mkF m 215 #[iv p1, iv p2, iv p3, iv p4, iv p5, iv 2, iv (((p1 &&& (31 : Int32)) <<< ((6 : Int32) &&& 31)) ||| (p2 &&& (63 : Int32))), iv 128, iv (if (contF p2) = (0 : Int32) then (0 : Int32) else (1 : Int32)), .unset] [(.int (((p1 &&& (31 : Int32)) <<< ((6 : Int32) &&& 31)) ||| (p2 &&& (63 : Int32))))]))
              refine Goes.on (fun t k => XJ6.ldcInt hx hown (mvT hZ (hw _ (List.mem_of_getElem? (i := 14) rfl))) (g := (mkF m 215 #[iv p1, iv p2, iv p3, iv p4, iv p5, iv 2, iv (((p1 &&& (31 : Int32)) <<< ((6 : Int32) &&& 31)) ||| (p2 &&& (63 : Int32))), iv 128, iv (if (contF p2) = (0 : Int32) then (0 : Int32) else (1 : Int32)), .unset] [(.int (((p1 &&& (31 : Int32)) <<< ((6 : Int32) &&& 31)) ||| (p2 &&& (63 : Int32))))])) rfl (hb hby d1_215) t k) ?_
              show Goes p e below QQ (TJ6.setTop (mkF m 217 #[iv p1, iv p2, iv p3, iv p4, iv p5, iv 2, iv (((p1 &&& (31 : Int32)) <<< ((6 : Int32) &&& 31)) ||| (p2 &&& (63 : Int32))), iv 128, iv (if (contF p2) = (0 : Int32) then (0 : Int32) else (1 : Int32)), .unset] [(.int 1114111), (.int (((p1 &&& (31 : Int32)) <<< ((6 : Int32) &&& 31)) ||| (p2 &&& (63 : Int32))))]))
              by_cases hb11 : (1114111 : Int32) < (((p1 &&& (31 : Int32)) <<< ((6 : Int32) &&& 31)) ||| (p2 &&& (63 : Int32)))
              · refine Goes.on (fun t k => XS.icmpYes XJ6.here hx rfl (pc0 := 217) (pc' := 238) rfl (hb hby d1_217) rfl (tlt hb11).2.2.1 (by decide) (by decide) k) ?_
                show Goes p e below QQ (TJ6.setTop (mkF m 238 #[iv p1, iv p2, iv p3, iv p4, iv p5, iv 2, iv (((p1 &&& (31 : Int32)) <<< ((6 : Int32) &&& 31)) ||| (p2 &&& (63 : Int32))), iv 128, iv (if (contF p2) = (0 : Int32) then (0 : Int32) else (1 : Int32)), .unset] []))
                refine Goes.on (fun t k => XS.iconst XJ6.here hx rfl (hb hby d1_238) k) ?_
                show Goes p e below QQ (TJ6.setTop (mkF m 239 #[iv p1, iv p2, iv p3, iv p4, iv p5, iv 2, iv (((p1 &&& (31 : Int32)) <<< ((6 : Int32) &&& 31)) ||| (p2 &&& (63 : Int32))), iv 128, iv (if (contF p2) = (0 : Int32) then (0 : Int32) else (1 : Int32)), .unset] [(.int 0)]))
                rw [(((if_neg hb9).trans ((if_neg hb10).trans ((if_pos hb11).trans rfl))) : (if (if (contF p2) = (0 : Int32) then (0 : Int32) else (1 : Int32)) = (0 : Int32) then (0 : Int32) else (if (((p1 &&& (31 : Int32)) <<< ((6 : Int32) &&& 31)) ||| (p2 &&& (63 : Int32))) < (128 : Int32) then (0 : Int32) else (if (1114111 : Int32) < (((p1 &&& (31 : Int32)) <<< ((6 : Int32) &&& 31)) ||| (p2 &&& (63 : Int32))) then (0 : Int32) else (if (((p1 &&& (31 : Int32)) <<< ((6 : Int32) &&& 31)) ||| (p2 &&& (63 : Int32))) < (55296 : Int32) then (1 : Int32) else (if (57343 : Int32) < (((p1 &&& (31 : Int32)) <<< ((6 : Int32) &&& 31)) ||| (p2 &&& (63 : Int32))) then (1 : Int32) else (0 : Int32)))))) = (0 : Int32))] at J7
                exact J7 _ _ XJ6 eJ6 NJ6
              · refine Goes.on (fun t k => XS.icmpNo XJ6.here hx rfl (hb hby d1_217) rfl (flt hb11).2.2.1 k) ?_
                show Goes p e below QQ (TJ6.setTop (mkF m 220 #[iv p1, iv p2, iv p3, iv p4, iv p5, iv 2, iv (((p1 &&& (31 : Int32)) <<< ((6 : Int32) &&& 31)) ||| (p2 &&& (63 : Int32))), iv 128, iv (if (contF p2) = (0 : Int32) then (0 : Int32) else (1 : Int32)), .unset] []))
                refine Goes.on (fun t k => XS.iload XJ6.here hx rfl (hb hby d1_220) rfl k) ?_
                show Goes p e below QQ (TJ6.setTop (mkF m 222 #[iv p1, iv p2, iv p3, iv p4, iv p5, iv 2, iv (((p1 &&& (31 : Int32)) <<< ((6 : Int32) &&& 31)) ||| (p2 &&& (63 : Int32))), iv 128, iv (if (contF p2) = (0 : Int32) then (0 : Int32) else (1 : Int32)), .unset] [(.int (((p1 &&& (31 : Int32)) <<< ((6 : Int32) &&& 31)) ||| (p2 &&& (63 : Int32))))]))
                refine Goes.on (fun t k => XJ6.ldcInt hx hown (mvT hZ (hw _ (List.mem_of_getElem? (i := 15) rfl))) (g := (mkF m 222 #[iv p1, iv p2, iv p3, iv p4, iv p5, iv 2, iv (((p1 &&& (31 : Int32)) <<< ((6 : Int32) &&& 31)) ||| (p2 &&& (63 : Int32))), iv 128, iv (if (contF p2) = (0 : Int32) then (0 : Int32) else (1 : Int32)), .unset] [(.int (((p1 &&& (31 : Int32)) <<< ((6 : Int32) &&& 31)) ||| (p2 &&& (63 : Int32))))])) rfl (hb hby d1_222) t k) ?_
                show Goes p e below QQ (TJ6.setTop (mkF m 224 #[iv p1, iv p2, iv p3, iv p4, iv p5, iv 2, iv (((p1 &&& (31 : Int32)) <<< ((6 : Int32) &&& 31)) ||| (p2 &&& (63 : Int32))), iv 128, iv (if (contF p2) = (0 : Int32) then (0 : Int32) else (1 : Int32)), .unset] [(.int 55296), (.int (((p1 &&& (31 : Int32)) <<< ((6 : Int32) &&& 31)) ||| (p2 &&& (63 : Int32))))]))
                by_cases hb12 : (((p1 &&& (31 : Int32)) <<< ((6 : Int32) &&& 31)) ||| (p2 &&& (63 : Int32))) < (55296 : Int32)
                · refine Goes.on (fun t k => XS.icmpYes XJ6.here hx rfl (pc0 := 224) (pc' := 234) rfl (hb hby d1_224) rfl (tlt hb12).1 (by decide) (by decide) k) ?_
                  show Goes p e below QQ (TJ6.setTop (mkF m 234 #[iv p1, iv p2, iv p3, iv p4, iv p5, iv 2, iv (((p1 &&& (31 : Int32)) <<< ((6 : Int32) &&& 31)) ||| (p2 &&& (63 : Int32))), iv 128, iv (if (contF p2) = (0 : Int32) then (0 : Int32) else (1 : Int32)), .unset] []))
                  refine Goes.on (fun t k => XS.iconst XJ6.here hx rfl (hb hby d1_234) k) ?_
                  show Goes p e below QQ (TJ6.setTop (mkF m 235 #[iv p1, iv p2, iv p3, iv p4, iv p5, iv 2, iv (((p1 &&& (31 : Int32)) <<< ((6 : Int32) &&& 31)) ||| (p2 &&& (63 : Int32))), iv 128, iv (if (contF p2) = (0 : Int32) then (0 : Int32) else (1 : Int32)), .unset] [(.int 1)]))
                  refine Goes.on (fun t k => XS.goto XJ6.here hx rfl (pc0 := 235) (pc' := 239) rfl (hb hby d1_235) (by decide) (by decide) k) ?_
                  show Goes p e below QQ (TJ6.setTop (mkF m 239 #[iv p1, iv p2, iv p3, iv p4, iv p5, iv 2, iv (((p1 &&& (31 : Int32)) <<< ((6 : Int32) &&& 31)) ||| (p2 &&& (63 : Int32))), iv 128, iv (if (contF p2) = (0 : Int32) then (0 : Int32) else (1 : Int32)), .unset] [(.int 1)]))
                  rw [(((if_neg hb9).trans ((if_neg hb10).trans ((if_neg hb11).trans ((if_pos hb12).trans rfl)))) : (if (if (contF p2) = (0 : Int32) then (0 : Int32) else (1 : Int32)) = (0 : Int32) then (0 : Int32) else (if (((p1 &&& (31 : Int32)) <<< ((6 : Int32) &&& 31)) ||| (p2 &&& (63 : Int32))) < (128 : Int32) then (0 : Int32) else (if (1114111 : Int32) < (((p1 &&& (31 : Int32)) <<< ((6 : Int32) &&& 31)) ||| (p2 &&& (63 : Int32))) then (0 : Int32) else (if (((p1 &&& (31 : Int32)) <<< ((6 : Int32) &&& 31)) ||| (p2 &&& (63 : Int32))) < (55296 : Int32) then (1 : Int32) else (if (57343 : Int32) < (((p1 &&& (31 : Int32)) <<< ((6 : Int32) &&& 31)) ||| (p2 &&& (63 : Int32))) then (1 : Int32) else (0 : Int32)))))) = (1 : Int32))] at J7
                  exact J7 _ _ XJ6 eJ6 NJ6
                · refine Goes.on (fun t k => XS.icmpNo XJ6.here hx rfl (hb hby d1_224) rfl (flt hb12).1 k) ?_
                  show Goes p e below QQ (TJ6.setTop (mkF m 227 #[iv p1, iv p2, iv p3, iv p4, iv p5, iv 2, iv (((p1 &&& (31 : Int32)) <<< ((6 : Int32) &&& 31)) ||| (p2 &&& (63 : Int32))), iv 128, iv (if (contF p2) = (0 : Int32) then (0 : Int32) else (1 : Int32)), .unset] []))
                  refine Goes.on (fun t k => XS.iload XJ6.here hx rfl (hb hby d1_227) rfl k) ?_
                  show Goes p e below QQ (TJ6.setTop (mkF m 229 #[iv p1, iv p2, iv p3, iv p4, iv p5, iv 2, iv (((p1 &&& (31 : Int32)) <<< ((6 : Int32) &&& 31)) ||| (p2 &&& (63 : Int32))), iv 128, iv (if (contF p2) = (0 : Int32) then (0 : Int32) else (1 : Int32)), .unset] [(.int (((p1 &&& (31 : Int32)) <<< ((6 : Int32) &&& 31)) ||| (p2 &&& (63 : Int32))))]))
                  refine Goes.on (fun t k => XJ6.ldcInt hx hown (mvT hZ (hw _ (List.mem_of_getElem? (i := 16) rfl))) (g := (mkF m 229 #[iv p1, iv p2, iv p3, iv p4, iv p5, iv 2, iv (((p1 &&& (31 : Int32)) <<< ((6 : Int32) &&& 31)) ||| (p2 &&& (63 : Int32))), iv 128, iv (if (contF p2) = (0 : Int32) then (0 : Int32) else (1 : Int32)), .unset] [(.int (((p1 &&& (31 : Int32)) <<< ((6 : Int32) &&& 31)) ||| (p2 &&& (63 : Int32))))])) rfl (hb hby d1_229) t k) ?_
                  show Goes p e below QQ (TJ6.setTop (mkF m 231 #[iv p1, iv p2, iv p3, iv p4, iv p5, iv 2, iv (((p1 &&& (31 : Int32)) <<< ((6 : Int32) &&& 31)) ||| (p2 &&& (63 : Int32))), iv 128, iv (if (contF p2) = (0 : Int32) then (0 : Int32) else (1 : Int32)), .unset] [(.int 57343), (.int (((p1 &&& (31 : Int32)) <<< ((6 : Int32) &&& 31)) ||| (p2 &&& (63 : Int32))))]))
                  by_cases hb13 : (57343 : Int32) < (((p1 &&& (31 : Int32)) <<< ((6 : Int32) &&& 31)) ||| (p2 &&& (63 : Int32)))
                  · refine Goes.on (fun t k => XS.icmpNo XJ6.here hx rfl (hb hby d1_231) rfl (tlt hb13).2.2.2 k) ?_
                    show Goes p e below QQ (TJ6.setTop (mkF m 234 #[iv p1, iv p2, iv p3, iv p4, iv p5, iv 2, iv (((p1 &&& (31 : Int32)) <<< ((6 : Int32) &&& 31)) ||| (p2 &&& (63 : Int32))), iv 128, iv (if (contF p2) = (0 : Int32) then (0 : Int32) else (1 : Int32)), .unset] []))
                    refine Goes.on (fun t k => XS.iconst XJ6.here hx rfl (hb hby d1_234) k) ?_
                    show Goes p e below QQ (TJ6.setTop (mkF m 235 #[iv p1, iv p2, iv p3, iv p4, iv p5, iv 2, iv (((p1 &&& (31 : Int32)) <<< ((6 : Int32) &&& 31)) ||| (p2 &&& (63 : Int32))), iv 128, iv (if (contF p2) = (0 : Int32) then (0 : Int32) else (1 : Int32)), .unset] [(.int 1)]))
                    refine Goes.on (fun t k => XS.goto XJ6.here hx rfl (pc0 := 235) (pc' := 239) rfl (hb hby d1_235) (by decide) (by decide) k) ?_
                    show Goes p e below QQ (TJ6.setTop (mkF m 239 #[iv p1, iv p2, iv p3, iv p4, iv p5, iv 2, iv (((p1 &&& (31 : Int32)) <<< ((6 : Int32) &&& 31)) ||| (p2 &&& (63 : Int32))), iv 128, iv (if (contF p2) = (0 : Int32) then (0 : Int32) else (1 : Int32)), .unset] [(.int 1)]))
                    rw [(((if_neg hb9).trans ((if_neg hb10).trans ((if_neg hb11).trans ((if_neg hb12).trans ((if_pos hb13).trans rfl))))) : (if (if (contF p2) = (0 : Int32) then (0 : Int32) else (1 : Int32)) = (0 : Int32) then (0 : Int32) else (if (((p1 &&& (31 : Int32)) <<< ((6 : Int32) &&& 31)) ||| (p2 &&& (63 : Int32))) < (128 : Int32) then (0 : Int32) else (if (1114111 : Int32) < (((p1 &&& (31 : Int32)) <<< ((6 : Int32) &&& 31)) ||| (p2 &&& (63 : Int32))) then (0 : Int32) else (if (((p1 &&& (31 : Int32)) <<< ((6 : Int32) &&& 31)) ||| (p2 &&& (63 : Int32))) < (55296 : Int32) then (1 : Int32) else (if (57343 : Int32) < (((p1 &&& (31 : Int32)) <<< ((6 : Int32) &&& 31)) ||| (p2 &&& (63 : Int32))) then (1 : Int32) else (0 : Int32)))))) = (1 : Int32))] at J7
                    exact J7 _ _ XJ6 eJ6 NJ6
                  · refine Goes.on (fun t k => XS.icmpYes XJ6.here hx rfl (pc0 := 231) (pc' := 238) rfl (hb hby d1_231) rfl (flt hb13).2.2.2 (by decide) (by decide) k) ?_
                    show Goes p e below QQ (TJ6.setTop (mkF m 238 #[iv p1, iv p2, iv p3, iv p4, iv p5, iv 2, iv (((p1 &&& (31 : Int32)) <<< ((6 : Int32) &&& 31)) ||| (p2 &&& (63 : Int32))), iv 128, iv (if (contF p2) = (0 : Int32) then (0 : Int32) else (1 : Int32)), .unset] []))
                    refine Goes.on (fun t k => XS.iconst XJ6.here hx rfl (hb hby d1_238) k) ?_
                    show Goes p e below QQ (TJ6.setTop (mkF m 239 #[iv p1, iv p2, iv p3, iv p4, iv p5, iv 2, iv (((p1 &&& (31 : Int32)) <<< ((6 : Int32) &&& 31)) ||| (p2 &&& (63 : Int32))), iv 128, iv (if (contF p2) = (0 : Int32) then (0 : Int32) else (1 : Int32)), .unset] [(.int 0)]))
                    rw [(((if_neg hb9).trans ((if_neg hb10).trans ((if_neg hb11).trans ((if_neg hb12).trans ((if_neg hb13).trans rfl))))) : (if (if (contF p2) = (0 : Int32) then (0 : Int32) else (1 : Int32)) = (0 : Int32) then (0 : Int32) else (if (((p1 &&& (31 : Int32)) <<< ((6 : Int32) &&& 31)) ||| (p2 &&& (63 : Int32))) < (128 : Int32) then (0 : Int32) else (if (1114111 : Int32) < (((p1 &&& (31 : Int32)) <<< ((6 : Int32) &&& 31)) ||| (p2 &&& (63 : Int32))) then (0 : Int32) else (if (((p1 &&& (31 : Int32)) <<< ((6 : Int32) &&& 31)) ||| (p2 &&& (63 : Int32))) < (55296 : Int32) then (1 : Int32) else (if (57343 : Int32) < (((p1 &&& (31 : Int32)) <<< ((6 : Int32) &&& 31)) ||| (p2 &&& (63 : Int32))) then (1 : Int32) else (0 : Int32)))))) = (0 : Int32))] at J7
                    exact J7 _ _ XJ6 eJ6 NJ6
        show Goes p e below QQ (T5.setTop (mkF m 165 #[iv p1, iv p2, iv p3, iv p4, iv p5, iv 2, iv (((p1 &&& (31 : Int32)) <<< ((6 : Int32) &&& 31)) ||| (p2 &&& (63 : Int32))), iv 128, .unset, .unset] [(.int (contF p2))]))
        by_cases hb14 : (contF p2) = (0 : Int32)
        · refine Goes.on (fun t k => XS.ifYes X5.here hx rfl (pc0 := 165) (pc' := 198) rfl (hb hby d1_165) rfl ((if0 _ _).trans (teq hb14).1) (by decide) (by decide) k) ?_
          show Goes p e below QQ (T5.setTop (mkF m 198 #[iv p1, iv p2, iv p3, iv p4, iv p5, iv 2, iv (((p1 &&& (31 : Int32)) <<< ((6 : Int32) &&& 31)) ||| (p2 &&& (63 : Int32))), iv 128, .unset, .unset] []))
          refine Goes.on (fun t k => XS.iconst X5.here hx rfl (hb hby d1_198) k) ?_
          show Goes p e below QQ (T5.setTop (mkF m 199 #[iv p1, iv p2, iv p3, iv p4, iv p5, iv 2, iv (((p1 &&& (31 : Int32)) <<< ((6 : Int32) &&& 31)) ||| (p2 &&& (63 : Int32))), iv 128, .unset, .unset] [(.int 0)]))
          rw [(((if_pos hb14).trans rfl) : (if (contF p2) = (0 : Int32) then (0 : Int32) else (1 : Int32)) = (0 : Int32))] at J6
          exact J6 _ _ X5 e5 N5
        · refine Goes.on (fun t k => XS.ifNo X5.here hx rfl (hb hby d1_165) rfl ((if0 _ _).trans (feq hb14).1) k) ?_
          show Goes p e below QQ (T5.setTop (mkF m 168 #[iv p1, iv p2, iv p3, iv p4, iv p5, iv 2, iv (((p1 &&& (31 : Int32)) <<< ((6 : Int32) &&& 31)) ||| (p2 &&& (63 : Int32))), iv 128, .unset, .unset] []))
          refine Goes.on (fun t k => XS.iload X5.here hx rfl (hb hby d1_168) rfl k) ?_
          show Goes p e below QQ (T5.setTop (mkF m 170 #[iv p1, iv p2, iv p3, iv p4, iv p5, iv 2, iv (((p1 &&& (31 : Int32)) <<< ((6 : Int32) &&& 31)) ||| (p2 &&& (63 : Int32))), iv 128, .unset, .unset] [(.int 2)]))
          refine Goes.on (fun t k => XS.iconst X5.here hx rfl (hb hby d1_170) k) ?_
          show Goes p e below QQ (T5.setTop (mkF m 171 #[iv p1, iv p2, iv p3, iv p4, iv p5, iv 2, iv (((p1 &&& (31 : Int32)) <<< ((6 : Int32) &&& 31)) ||| (p2 &&& (63 : Int32))), iv 128, .unset, .unset] [(.int 3), (.int 2)]))
          refine Goes.on (fun t k => XS.icmpYes X5.here hx rfl (pc0 := 171) (pc' := 181) rfl (hb hby d1_171) rfl (tlt (by decide)).1 (by decide) (by decide) k) ?_
          show Goes p e below QQ (T5.setTop (mkF m 181 #[iv p1, iv p2, iv p3, iv p4, iv p5, iv 2, iv (((p1 &&& (31 : Int32)) <<< ((6 : Int32) &&& 31)) ||| (p2 &&& (63 : Int32))), iv 128, .unset, .unset] []))
          refine Goes.on (fun t k => XS.iload X5.here hx rfl (hb hby d1_181) rfl k) ?_
          show Goes p e below QQ (T5.setTop (mkF m 183 #[iv p1, iv p2, iv p3, iv p4, iv p5, iv 2, iv (((p1 &&& (31 : Int32)) <<< ((6 : Int32) &&& 31)) ||| (p2 &&& (63 : Int32))), iv 128, .unset, .unset] [(.int 2)]))
          refine Goes.on (fun t k => XS.iconst X5.here hx rfl (hb hby d1_183) k) ?_
          show Goes p e below QQ (T5.setTop (mkF m 184 #[iv p1, iv p2, iv p3, iv p4, iv p5, iv 2, iv (((p1 &&& (31 : Int32)) <<< ((6 : Int32) &&& 31)) ||| (p2 &&& (63 : Int32))), iv 128, .unset, .unset] [(.int 4), (.int 2)]))
          refine Goes.on (fun t k => XS.icmpYes X5.here hx rfl (pc0 := 184) (pc' := 194) rfl (hb hby d1_184) rfl (tlt (by decide)).1 (by decide) (by decide) k) ?_
          show Goes p e below QQ (T5.setTop (mkF m 194 #[iv p1, iv p2, iv p3, iv p4, iv p5, iv 2, iv (((p1 &&& (31 : Int32)) <<< ((6 : Int32) &&& 31)) ||| (p2 &&& (63 : Int32))), iv 128, .unset, .unset] []))
          refine Goes.on (fun t k => XS.iconst X5.here hx rfl (hb hby d1_194) k) ?_
          show Goes p e below QQ (T5.setTop (mkF m 195 #[iv p1, iv p2, iv p3, iv p4, iv p5, iv 2, iv (((p1 &&& (31 : Int32)) <<< ((6 : Int32) &&& 31)) ||| (p2 &&& (63 : Int32))), iv 128, .unset, .unset] [(.int 1)]))
          refine Goes.on (fun t k => XS.goto X5.here hx rfl (pc0 := 195) (pc' := 199) rfl (hb hby d1_195) (by decide) (by decide) k) ?_
          show Goes p e below QQ (T5.setTop (mkF m 199 #[iv p1, iv p2, iv p3, iv p4, iv p5, iv 2, iv (((p1 &&& (31 : Int32)) <<< ((6 : Int32) &&& 31)) ||| (p2 &&& (63 : Int32))), iv 128, .unset, .unset] [(.int 1)]))
          rw [(((if_neg hb14).trans rfl) : (if (contF p2) = (0 : Int32) then (0 : Int32) else (1 : Int32)) = (1 : Int32))] at J6
          exact J6 _ _ X5 e5 N5
    · refine Goes.on (fun t k => XS.icmpYes X0.here hx rfl (pc0 := 27) (pc' := 55) rfl (hb hby d1_27) rfl (feq hb3).2 (by decide) (by decide) k) ?_
      show Goes p e below QQ (s₁.setTop (mkF m 55 #[iv p1, iv p2, iv p3, iv p4, iv p5, .unset, .unset, .unset, .unset, .unset] []))
      refine Goes.on (fun t k => XS.iloadN X0.here hx rfl (hb hby d1_55) rfl k) ?_
      show Goes p e below QQ (s₁.setTop (mkF m 56 #[iv p1, iv p2, iv p3, iv p4, iv p5, .unset, .unset, .unset, .unset, .unset] [(.int p1)]))
      refine Goes.on (fun t k => XS.sipush X0.here hx rfl (hb hby d1_56) k) ?_
      show Goes p e below QQ (s₁.setTop (mkF m 59 #[iv p1, iv p2, iv p3, iv p4, iv p5, .unset, .unset, .unset, .unset, .unset] [(.int 240), (.int p1)]))
      refine Goes.on (fun t k => XS.iand X0.here hx rfl (hb hby d1_59) rfl k) ?_
      show Goes p e below QQ (s₁.setTop (mkF m 60 #[iv p1, iv p2, iv p3, iv p4, iv p5, .unset, .unset, .unset, .unset, .unset] [(.int (p1 &&& (240 : Int32)))]))
      refine Goes.on (fun t k => XS.sipush X0.here hx rfl (hb hby d1_60) k) ?_
      show Goes p e below QQ (s₁.setTop (mkF m 63 #[iv p1, iv p2, iv p3, iv p4, iv p5, .unset, .unset, .unset, .unset, .unset] [(.int 224), (.int (p1 &&& (240 : Int32)))]))
      by_cases hb15 : (p1 &&& (240 : Int32)) = (224 : Int32)
      · refine Goes.on (fun t k => XS.icmpNo X0.here hx rfl (hb hby d1_63) rfl (teq hb15).2 k) ?_
        show Goes p e below QQ (s₁.setTop (mkF m 66 #[iv p1, iv p2, iv p3, iv p4, iv p5, .unset, .unset, .unset, .unset, .unset] []))
        refine Goes.on (fun t k => XS.iconst X0.here hx rfl (hb hby d1_66) k) ?_
        show Goes p e below QQ (s₁.setTop (mkF m 67 #[iv p1, iv p2, iv p3, iv p4, iv p5, .unset, .unset, .unset, .unset, .unset] [(.int 3)]))
        refine Goes.on (fun t k => XS.istore X0.here hx rfl (hb hby d1_67) rfl (l' := #[iv p1, iv p2, iv p3, iv p4, iv p5, iv 3, .unset, .unset, .unset, .unset]) rfl k) ?_
        show Goes p e below QQ (s₁.setTop (mkF m 69 #[iv p1, iv p2, iv p3, iv p4, iv p5, iv 3, .unset, .unset, .unset, .unset] []))
        refine Goes.on (fun t k => XS.iloadN X0.here hx rfl (hb hby d1_69) rfl k) ?_
        show Goes p e below QQ (s₁.setTop (mkF m 70 #[iv p1, iv p2, iv p3, iv p4, iv p5, iv 3, .unset, .unset, .unset, .unset] [(.int p1)]))
        refine Goes.on (fun t k => XS.bipush X0.here hx rfl (hb hby d1_70) k) ?_
        show Goes p e below QQ (s₁.setTop (mkF m 72 #[iv p1, iv p2, iv p3, iv p4, iv p5, iv 3, .unset, .unset, .unset, .unset] [(.int 15), (.int p1)]))
        refine Goes.on (fun t k => XS.iand X0.here hx rfl (hb hby d1_72) rfl k) ?_
        show Goes p e below QQ (s₁.setTop (mkF m 73 #[iv p1, iv p2, iv p3, iv p4, iv p5, iv 3, .unset, .unset, .unset, .unset] [(.int (p1 &&& (15 : Int32)))]))
        refine Goes.on (fun t k => XS.bipush X0.here hx rfl (hb hby d1_73) k) ?_
        show Goes p e below QQ (s₁.setTop (mkF m 75 #[iv p1, iv p2, iv p3, iv p4, iv p5, iv 3, .unset, .unset, .unset, .unset] [(.int 12), (.int (p1 &&& (15 : Int32)))]))
        refine Goes.on (fun t k => XS.ishl X0.here hx rfl (hb hby d1_75) rfl k) ?_
        show Goes p e below QQ (s₁.setTop (mkF m 76 #[iv p1, iv p2, iv p3, iv p4, iv p5, iv 3, .unset, .unset, .unset, .unset] [(.int ((p1 &&& (15 : Int32)) <<< ((12 : Int32) &&& 31)))]))
        refine Goes.on (fun t k => XS.iloadN X0.here hx rfl (hb hby d1_76) rfl k) ?_
        show Goes p e below QQ (s₁.setTop (mkF m 77 #[iv p1, iv p2, iv p3, iv p4, iv p5, iv 3, .unset, .unset, .unset, .unset] [(.int p2), (.int ((p1 &&& (15 : Int32)) <<< ((12 : Int32) &&& 31)))]))
        refine Goes.on (fun t k => XS.bipush X0.here hx rfl (hb hby d1_77) k) ?_
        show Goes p e below QQ (s₁.setTop (mkF m 79 #[iv p1, iv p2, iv p3, iv p4, iv p5, iv 3, .unset, .unset, .unset, .unset] [(.int 63), (.int p2), (.int ((p1 &&& (15 : Int32)) <<< ((12 : Int32) &&& 31)))]))
        refine Goes.on (fun t k => XS.iand X0.here hx rfl (hb hby d1_79) rfl k) ?_
        show Goes p e below QQ (s₁.setTop (mkF m 80 #[iv p1, iv p2, iv p3, iv p4, iv p5, iv 3, .unset, .unset, .unset, .unset] [(.int (p2 &&& (63 : Int32))), (.int ((p1 &&& (15 : Int32)) <<< ((12 : Int32) &&& 31)))]))
        refine Goes.on (fun t k => XS.bipush X0.here hx rfl (hb hby d1_80) k) ?_
        show Goes p e below QQ (s₁.setTop (mkF m 82 #[iv p1, iv p2, iv p3, iv p4, iv p5, iv 3, .unset, .unset, .unset, .unset] [(.int 6), (.int (p2 &&& (63 : Int32))), (.int ((p1 &&& (15 : Int32)) <<< ((12 : Int32) &&& 31)))]))
        refine Goes.on (fun t k => XS.ishl X0.here hx rfl (hb hby d1_82) rfl k) ?_
        show Goes p e below QQ (s₁.setTop (mkF m 83 #[iv p1, iv p2, iv p3, iv p4, iv p5, iv 3, .unset, .unset, .unset, .unset] [(.int ((p2 &&& (63 : Int32)) <<< ((6 : Int32) &&& 31))), (.int ((p1 &&& (15 : Int32)) <<< ((12 : Int32) &&& 31)))]))
        refine Goes.on (fun t k => XS.ior X0.here hx rfl (hb hby d1_83) rfl k) ?_
        show Goes p e below QQ (s₁.setTop (mkF m 84 #[iv p1, iv p2, iv p3, iv p4, iv p5, iv 3, .unset, .unset, .unset, .unset] [(.int (((p1 &&& (15 : Int32)) <<< ((12 : Int32) &&& 31)) ||| ((p2 &&& (63 : Int32)) <<< ((6 : Int32) &&& 31))))]))
        refine Goes.on (fun t k => XS.iloadN X0.here hx rfl (hb hby d1_84) rfl k) ?_
        show Goes p e below QQ (s₁.setTop (mkF m 85 #[iv p1, iv p2, iv p3, iv p4, iv p5, iv 3, .unset, .unset, .unset, .unset] [(.int p3), (.int (((p1 &&& (15 : Int32)) <<< ((12 : Int32) &&& 31)) ||| ((p2 &&& (63 : Int32)) <<< ((6 : Int32) &&& 31))))]))
        refine Goes.on (fun t k => XS.bipush X0.here hx rfl (hb hby d1_85) k) ?_
        show Goes p e below QQ (s₁.setTop (mkF m 87 #[iv p1, iv p2, iv p3, iv p4, iv p5, iv 3, .unset, .unset, .unset, .unset] [(.int 63), (.int p3), (.int (((p1 &&& (15 : Int32)) <<< ((12 : Int32) &&& 31)) ||| ((p2 &&& (63 : Int32)) <<< ((6 : Int32) &&& 31))))]))
        refine Goes.on (fun t k => XS.iand X0.here hx rfl (hb hby d1_87) rfl k) ?_
        show Goes p e below QQ (s₁.setTop (mkF m 88 #[iv p1, iv p2, iv p3, iv p4, iv p5, iv 3, .unset, .unset, .unset, .unset] [(.int (p3 &&& (63 : Int32))), (.int (((p1 &&& (15 : Int32)) <<< ((12 : Int32) &&& 31)) ||| ((p2 &&& (63 : Int32)) <<< ((6 : Int32) &&& 31))))]))
        refine Goes.on (fun t k => XS.ior X0.here hx rfl (hb hby d1_88) rfl k) ?_
        show Goes p e below QQ (s₁.setTop (mkF m 89 #[iv p1, iv p2, iv p3, iv p4, iv p5, iv 3, .unset, .unset, .unset, .unset] [(.int ((((p1 &&& (15 : Int32)) <<< ((12 : Int32) &&& 31)) ||| ((p2 &&& (63 : Int32)) <<< ((6 : Int32) &&& 31))) ||| (p3 &&& (63 : Int32))))]))
        refine Goes.on (fun t k => XS.istore X0.here hx rfl (hb hby d1_89) rfl (l' := #[iv p1, iv p2, iv p3, iv p4, iv p5, iv 3, iv ((((p1 &&& (15 : Int32)) <<< ((12 : Int32) &&& 31)) ||| ((p2 &&& (63 : Int32)) <<< ((6 : Int32) &&& 31))) ||| (p3 &&& (63 : Int32))), .unset, .unset, .unset]) rfl k) ?_
        show Goes p e below QQ (s₁.setTop (mkF m 91 #[iv p1, iv p2, iv p3, iv p4, iv p5, iv 3, iv ((((p1 &&& (15 : Int32)) <<< ((12 : Int32) &&& 31)) ||| ((p2 &&& (63 : Int32)) <<< ((6 : Int32) &&& 31))) ||| (p3 &&& (63 : Int32))), .unset, .unset, .unset] []))
        refine Goes.on (fun t k => XS.sipush X0.here hx rfl (hb hby d1_91) k) ?_
        show Goes p e below QQ (s₁.setTop (mkF m 94 #[iv p1, iv p2, iv p3, iv p4, iv p5, iv 3, iv ((((p1 &&& (15 : Int32)) <<< ((12 : Int32) &&& 31)) ||| ((p2 &&& (63 : Int32)) <<< ((6 : Int32) &&& 31))) ||| (p3 &&& (63 : Int32))), .unset, .unset, .unset] [(.int 2048)]))
        refine Goes.on (fun t k => XS.istore X0.here hx rfl (hb hby d1_94) rfl (l' := #[iv p1, iv p2, iv p3, iv p4, iv p5, iv 3, iv ((((p1 &&& (15 : Int32)) <<< ((12 : Int32) &&& 31)) ||| ((p2 &&& (63 : Int32)) <<< ((6 : Int32) &&& 31))) ||| (p3 &&& (63 : Int32))), iv 2048, .unset, .unset]) rfl k) ?_
        show Goes p e below QQ (s₁.setTop (mkF m 96 #[iv p1, iv p2, iv p3, iv p4, iv p5, iv 3, iv ((((p1 &&& (15 : Int32)) <<< ((12 : Int32) &&& 31)) ||| ((p2 &&& (63 : Int32)) <<< ((6 : Int32) &&& 31))) ||| (p3 &&& (63 : Int32))), iv 2048, .unset, .unset] []))
        refine Goes.on (fun t k => XS.goto X0.here hx rfl (pc0 := 96) (pc' := 152) rfl (hb hby d1_96) (by decide) (by decide) k) ?_
        show Goes p e below QQ (s₁.setTop (mkF m 152 #[iv p1, iv p2, iv p3, iv p4, iv p5, iv 3, iv ((((p1 &&& (15 : Int32)) <<< ((12 : Int32) &&& 31)) ||| ((p2 &&& (63 : Int32)) <<< ((6 : Int32) &&& 31))) ||| (p3 &&& (63 : Int32))), iv 2048, .unset, .unset] []))
        refine Goes.on (fun t k => XS.iload X0.here hx rfl (hb hby d1_152) rfl k) ?_
        show Goes p e below QQ (s₁.setTop (mkF m 154 #[iv p1, iv p2, iv p3, iv p4, iv p5, iv 3, iv ((((p1 &&& (15 : Int32)) <<< ((12 : Int32) &&& 31)) ||| ((p2 &&& (63 : Int32)) <<< ((6 : Int32) &&& 31))) ||| (p3 &&& (63 : Int32))), iv 2048, .unset, .unset] [(.int p5)]))
        refine Goes.on (fun t k => XS.iload X0.here hx rfl (hb hby d1_154) rfl k) ?_
        show Goes p e below QQ (s₁.setTop (mkF m 156 #[iv p1, iv p2, iv p3, iv p4, iv p5, iv 3, iv ((((p1 &&& (15 : Int32)) <<< ((12 : Int32) &&& 31)) ||| ((p2 &&& (63 : Int32)) <<< ((6 : Int32) &&& 31))) ||| (p3 &&& (63 : Int32))), iv 2048, .unset, .unset] [(.int 3), (.int p5)]))
        by_cases hb16 : p5 < (3 : Int32)
        · refine Goes.on (fun t k => XS.icmpNo X0.here hx rfl (hb hby d1_156) rfl (tlt hb16).2.1 k) ?_
          show Goes p e below QQ (s₁.setTop (mkF m 159 #[iv p1, iv p2, iv p3, iv p4, iv p5, iv 3, iv ((((p1 &&& (15 : Int32)) <<< ((12 : Int32) &&& 31)) ||| ((p2 &&& (63 : Int32)) <<< ((6 : Int32) &&& 31))) ||| (p3 &&& (63 : Int32))), iv 2048, .unset, .unset] []))
          refine Goes.on (fun t k => XS.iconst X0.here hx rfl (hb hby d1_159) k) ?_
          show Goes p e below QQ (s₁.setTop (mkF m 160 #[iv p1, iv p2, iv p3, iv p4, iv p5, iv 3, iv ((((p1 &&& (15 : Int32)) <<< ((12 : Int32) &&& 31)) ||| ((p2 &&& (63 : Int32)) <<< ((6 : Int32) &&& 31))) ||| (p3 &&& (63 : Int32))), iv 2048, .unset, .unset] [(.int 0)]))
          exact Goes.rI X0 hx hret hlk (hb hby d1_160) hQQ ⟨congrArg (fun z => some (Value.int z)) (((if_neg hb1).trans ((if_neg hb3).trans ((if_pos hb15).trans ((if_pos hb16).trans rfl)))) : (expF p1 p2 p3 p4 p5) = (0 : Int32)).symm, N0, e0⟩ (by decide) (by decide)
        · refine Goes.on (fun t k => XS.icmpYes X0.here hx rfl (pc0 := 156) (pc' := 161) rfl (hb hby d1_156) rfl (flt hb16).2.1 (by decide) (by decide) k) ?_
          show Goes p e below QQ (s₁.setTop (mkF m 161 #[iv p1, iv p2, iv p3, iv p4, iv p5, iv 3, iv ((((p1 &&& (15 : Int32)) <<< ((12 : Int32) &&& 31)) ||| ((p2 &&& (63 : Int32)) <<< ((6 : Int32) &&& 31))) ||| (p3 &&& (63 : Int32))), iv 2048, .unset, .unset] []))
          refine Goes.on (fun t k => XS.iloadN X0.here hx rfl (hb hby d1_161) rfl k) ?_
          show Goes p e below QQ (s₁.setTop (mkF m 162 #[iv p1, iv p2, iv p3, iv p4, iv p5, iv 3, iv ((((p1 &&& (15 : Int32)) <<< ((12 : Int32) &&& 31)) ||| ((p2 &&& (63 : Int32)) <<< ((6 : Int32) &&& 31))) ||| (p3 &&& (63 : Int32))), iv 2048, .unset, .unset] [(.int p2)]))
          obtain ⟨_, _, ⟨T17, L17, k17, n17⟩, -, X17, ⟨Lc17, hQ17, l17, y17, z17⟩, st17⟩ := Jvm.LawKit.callS X0 hx (y := (⟨"com/example/sober_links/soberlinks/io/Utf8SequenceLengthPinLaw", "cont", "(I)Z"⟩ : MethodName)) hown (mvT hZ (hw _ (List.mem_of_getElem? (i := 10) rfl))) (mvT hZ (hw _ (List.mem_of_getElem? (i := 11) rfl))) (mvT hZ (hw _ (List.mem_of_getElem? (i := 4) rfl))) (mvT hZ (hw _ (List.mem_of_getElem? (i := 12) rfl))) (by decide) (backOf (W := 0) (rm1 l Z a0 hw [] p2 h0 n0 (Nat.le_trans Z0 K0.1) ) hZ (hw _ (List.mem_of_getElem? (i := 12) rfl)) (hw _ (List.mem_of_getElem? (i := 4) rfl)) (by decide) (by decide)) (g := (mkF m 162 #[iv p1, iv p2, iv p3, iv p4, iv p5, iv 3, iv ((((p1 &&& (15 : Int32)) <<< ((12 : Int32) &&& 31)) ||| ((p2 &&& (63 : Int32)) <<< ((6 : Int32) &&& 31))) ||| (p3 &&& (63 : Int32))), iv 2048, .unset, .unset] [(.int p2)])) rfl (by rw [hml]; rfl) (argsL := [(.int p2)]) (rest := []) (lenOf pd_0 rfl) rfl (by show 2 * 0 + _ ≤ _; exact Nat.le_of_eq rfl) (hb hby d1_162) (fun _ _ => ⟨rfl, e0, (by decide : 0 + 0 ≤ _), (by decide : 0 + 0 ≤ _)⟩)
          dsimp only [Pt.U, Pt.locs, Pt.cells, Pt.slots] at X17 l17 y17 z17 st17 hQ17
          subst l17 y17 z17
          obtain ⟨rfl, M17, e17⟩ := hQ17
          have N17 := Fr.app N0 M17
          refine Goes.on (fun t k => st17 _ k) ?_
          show Goes p e below QQ (T17.setTop (mkF m 165 #[iv p1, iv p2, iv p3, iv p4, iv p5, iv 3, iv ((((p1 &&& (15 : Int32)) <<< ((12 : Int32) &&& 31)) ||| ((p2 &&& (63 : Int32)) <<< ((6 : Int32) &&& 31))) ||| (p3 &&& (63 : Int32))), iv 2048, .unset, .unset] [(.int (contF p2))]))
          have J18 : ∀ (TJ18 : State) (lJ18 : List Loc), Stand p l e ({ frames := 1, cells := 0, slots := 0, locals := 12 } : Room) s m #[(.int p1), (.int p2), (.int p3), (.int p4), (.int p5)] below meth c TJ18 lJ18 0 0 → TJ18.heap = h0 → Fr n0 lJ18 → Goes p e below QQ (TJ18.setTop (mkF m 199 #[iv p1, iv p2, iv p3, iv p4, iv p5, iv 3, iv ((((p1 &&& (15 : Int32)) <<< ((12 : Int32) &&& 31)) ||| ((p2 &&& (63 : Int32)) <<< ((6 : Int32) &&& 31))) ||| (p3 &&& (63 : Int32))), iv 2048, .unset, .unset] [(.int (if (contF p2) = (0 : Int32) then (0 : Int32) else (if (contF p3) = (0 : Int32) then (0 : Int32) else (1 : Int32))))])) := by
            intro TJ18 lJ18 XJ18 eJ18 NJ18
            refine Goes.on (fun t k => XS.istore XJ18.here hx rfl (hb hby d1_199) rfl (l' := #[iv p1, iv p2, iv p3, iv p4, iv p5, iv 3, iv ((((p1 &&& (15 : Int32)) <<< ((12 : Int32) &&& 31)) ||| ((p2 &&& (63 : Int32)) <<< ((6 : Int32) &&& 31))) ||| (p3 &&& (63 : Int32))), iv 2048, iv (if (contF p2) = (0 : Int32) then (0 : Int32) else (if (contF p3) = (0 : Int32) then (0 : Int32) else (1 : Int32))), .unset]) rfl k) ?_
            show Goes p e below QQ (TJ18.setTop (mkF m 201 #[iv p1, iv p2, iv p3, iv p4, iv p5, iv 3, iv ((((p1 &&& (15 : Int32)) <<< ((12 : Int32) &&& 31)) ||| ((p2 &&& (63 : Int32)) <<< ((6 : Int32) &&& 31))) ||| (p3 &&& (63 : Int32))), iv 2048, iv (if (contF p2) = (0 : Int32) then (0 : Int32) else (if (contF p3) = (0 : Int32) then (0 : Int32) else (1 : Int32))), .unset] []))
            refine Goes.on (fun t k => XS.iload XJ18.here hx rfl (hb hby d1_201) rfl k) ?_
            show Goes p e below QQ (TJ18.setTop (mkF m 203 #[iv p1, iv p2, iv p3, iv p4, iv p5, iv 3, iv ((((p1 &&& (15 : Int32)) <<< ((12 : Int32) &&& 31)) ||| ((p2 &&& (63 : Int32)) <<< ((6 : Int32) &&& 31))) ||| (p3 &&& (63 : Int32))), iv 2048, iv (if (contF p2) = (0 : Int32) then (0 : Int32) else (if (contF p3) = (0 : Int32) then (0 : Int32) else (1 : Int32))), .unset] [(.int (if (contF p2) = (0 : Int32) then (0 : Int32) else (if (contF p3) = (0 : Int32) then (0 : Int32) else (1 : Int32))))]))
            have J19 : ∀ (TJ19 : State) (lJ19 : List Loc), Stand p l e ({ frames := 1, cells := 0, slots := 0, locals := 12 } : Room) s m #[(.int p1), (.int p2), (.int p3), (.int p4), (.int p5)] below meth c TJ19 lJ19 0 0 → TJ19.heap = h0 → Fr n0 lJ19 → Goes p e below QQ (TJ19.setTop (mkF m 239 #[iv p1, iv p2, iv p3, iv p4, iv p5, iv 3, iv ((((p1 &&& (15 : Int32)) <<< ((12 : Int32) &&& 31)) ||| ((p2 &&& (63 : Int32)) <<< ((6 : Int32) &&& 31))) ||| (p3 &&& (63 : Int32))), iv 2048, iv (if (contF p2) = (0 : Int32) then (0 : Int32) else (if (contF p3) = (0 : Int32) then (0 : Int32) else (1 : Int32))), .unset] [(.int (if (if (contF p2) = (0 : Int32) then (0 : Int32) else (if (contF p3) = (0 : Int32) then (0 : Int32) else (1 : Int32))) = (0 : Int32) then (0 : Int32) else (if ((((p1 &&& (15 : Int32)) <<< ((12 : Int32) &&& 31)) ||| ((p2 &&& (63 : Int32)) <<< ((6 : Int32) &&& 31))) ||| (p3 &&& (63 : Int32))) < (2048 : Int32) then (0 : Int32) else (if (1114111 : Int32) < ((((p1 &&& (15 : Int32)) <<< ((12 : Int32) &&& 31)) ||| ((p2 &&& (63 : Int32)) <<< ((6 : Int32) &&& 31))) ||| (p3 &&& (63 : Int32))) then (0 : Int32) else (if ((((p1 &&& (15 : Int32)) <<< ((12 : Int32) &&& 31)) ||| ((p2 &&& (63 : Int32)) <<< ((6 : Int32) &&& 31))) ||| (p3 &&& (63 : Int32))) < (55296 : Int32) then (1 : Int32) else (if (57343 : Int32) < ((((p1 &&& (15 : Int32)) <<< ((12 : Int32) &&& 31)) ||| ((p2 &&& (63 : Int32)) <<< ((6 : Int32) &&& 31))) ||| (p3 &&& (63 : Int32))) then (1 : Int32) else (0 : Int32)))))))])) := by
              intro TJ19 lJ19 XJ19 eJ19 NJ19
              refine Goes.on (fun t k => XS.istore XJ19.here hx rfl (hb hby d1_239) rfl (l' := #[iv p1, iv p2, iv p3, iv p4, iv p5, iv 3, iv ((((p1 &&& (15 : Int32)) <<< ((12 : Int32) &&& 31)) ||| ((p2 &&& (63 : Int32)) <<< ((6 : Int32) &&& 31))) ||| (p3 &&& (63 : Int32))), iv 2048, iv (if (contF p2) = (0 : Int32) then (0 : Int32) else (if (contF p3) = (0 : Int32) then (0 : Int32) else (1 : Int32))), iv (if (if (contF p2) = (0 : Int32) then (0 : Int32) else (if (contF p3) = (0 : Int32) then (0 : Int32) else (1 : Int32))) = (0 : Int32) then (0 : Int32) else (if ((((p1 &&& (15 : Int32)) <<< ((12 : Int32) &&& 31)) ||| ((p2 &&& (63 : Int32)) <<< ((6 : Int32) &&& 31))) ||| (p3 &&& (63 : Int32))) < (2048 : Int32) then (0 : Int32) else (if (1114111 : Int32) < ((((p1 &&& (15 : Int32)) <<< ((12 : Int32) &&& 31)) ||| ((p2 &&& (63 : Int32)) <<< ((6 : Int32) &&& 31))) ||| (p3 &&& (63 : Int32))) then (0 : Int32) else (if ((((p1 &&& (15 : Int32)) <<< ((12 : Int32) &&& 31)) ||| ((p2 &&& (63 : Int32)) <<< ((6 : Int32) &&& 31))) ||| (p3 &&& (63 : Int32))) < (55296 : Int32) then (1 : Int32) else (if (57343 : Int32) < ((((p1 &&& (15 : Int32)) <<< ((12 : Int32) &&& 31)) ||| ((p2 &&& (63 : Int32)) <<< ((6 : Int32) &&& 31))) ||| (p3 &&& (63 : Int32))) then (1 : Int32) else (0 : Int32))))))]) rfl k) ?_
              show Goes p e below QQ (TJ19.setTop (mkF m 241 #[iv p1, iv p2, iv p3, iv p4, iv p5, iv 3, iv ((((p1 &&& (15 : Int32)) <<< ((12 : Int32) &&& 31)) ||| ((p2 &&& (63 : Int32)) <<< ((6 : Int32) &&& 31))) ||| (p3 &&& (63 : Int32))), iv 2048, iv (if (contF p2) = (0 : Int32) then (0 : Int32) else (if (contF p3) = (0 : Int32) then (0 : Int32) else (1 : Int32))), iv (if (if (contF p2) = (0 : Int32) then (0 : Int32) else (if (contF p3) = (0 : Int32) then (0 : Int32) else (1 : Int32))) = (0 : Int32) then (0 : Int32) else (if ((((p1 &&& (15 : Int32)) <<< ((12 : Int32) &&& 31)) ||| ((p2 &&& (63 : Int32)) <<< ((6 : Int32) &&& 31))) ||| (p3 &&& (63 : Int32))) < (2048 : Int32) then (0 : Int32) else (if (1114111 : Int32) < ((((p1 &&& (15 : Int32)) <<< ((12 : Int32) &&& 31)) ||| ((p2 &&& (63 : Int32)) <<< ((6 : Int32) &&& 31))) ||| (p3 &&& (63 : Int32))) then (0 : Int32) else (if ((((p1 &&& (15 : Int32)) <<< ((12 : Int32) &&& 31)) ||| ((p2 &&& (63 : Int32)) <<< ((6 : Int32) &&& 31))) ||| (p3 &&& (63 : Int32))) < (55296 : Int32) then (1 : Int32) else (if (57343 : Int32) < ((((p1 &&& (15 : Int32)) <<< ((12 : Int32) &&& 31)) ||| ((p2 &&& (63 : Int32)) <<< ((6 : Int32) &&& 31))) ||| (p3 &&& (63 : Int32))) then (1 : Int32) else (0 : Int32))))))] []))
              refine Goes.on (fun t k => XS.iload XJ19.here hx rfl (hb hby d1_241) rfl k) ?_
              show Goes p e below QQ (TJ19.setTop (mkF m 243 #[iv p1, iv p2, iv p3, iv p4, iv p5, iv 3, iv ((((p1 &&& (15 : Int32)) <<< ((12 : Int32) &&& 31)) ||| ((p2 &&& (63 : Int32)) <<< ((6 : Int32) &&& 31))) ||| (p3 &&& (63 : Int32))), iv 2048, iv (if (contF p2) = (0 : Int32) then (0 : Int32) else (if (contF p3) = (0 : Int32) then (0 : Int32) else (1 : Int32))), iv (if (if (contF p2) = (0 : Int32) then (0 : Int32) else (if (contF p3) = (0 : Int32) then (0 : Int32) else (1 : Int32))) = (0 : Int32) then (0 : Int32) else (if ((((p1 &&& (15 : Int32)) <<< ((12 : Int32) &&& 31)) ||| ((p2 &&& (63 : Int32)) <<< ((6 : Int32) &&& 31))) ||| (p3 &&& (63 : Int32))) < (2048 : Int32) then (0 : Int32) else (if (1114111 : Int32) < ((((p1 &&& (15 : Int32)) <<< ((12 : Int32) &&& 31)) ||| ((p2 &&& (63 : Int32)) <<< ((6 : Int32) &&& 31))) ||| (p3 &&& (63 : Int32))) then (0 : Int32) else (if ((((p1 &&& (15 : Int32)) <<< ((12 : Int32) &&& 31)) ||| ((p2 &&& (63 : Int32)) <<< ((6 : Int32) &&& 31))) ||| (p3 &&& (63 : Int32))) < (55296 : Int32) then (1 : Int32) else (if (57343 : Int32) < ((((p1 &&& (15 : Int32)) <<< ((12 : Int32) &&& 31)) ||| ((p2 &&& (63 : Int32)) <<< ((6 : Int32) &&& 31))) ||| (p3 &&& (63 : Int32))) then (1 : Int32) else (0 : Int32))))))] [(.int (if (if (contF p2) = (0 : Int32) then (0 : Int32) else (if (contF p3) = (0 : Int32) then (0 : Int32) else (1 : Int32))) = (0 : Int32) then (0 : Int32) else (if ((((p1 &&& (15 : Int32)) <<< ((12 : Int32) &&& 31)) ||| ((p2 &&& (63 : Int32)) <<< ((6 : Int32) &&& 31))) ||| (p3 &&& (63 : Int32))) < (2048 : Int32) then (0 : Int32) else (if (1114111 : Int32) < ((((p1 &&& (15 : Int32)) <<< ((12 : Int32) &&& 31)) ||| ((p2 &&& (63 : Int32)) <<< ((6 : Int32) &&& 31))) ||| (p3 &&& (63 : Int32))) then (0 : Int32) else (if ((((p1 &&& (15 : Int32)) <<< ((12 : Int32) &&& 31)) ||| ((p2 &&& (63 : Int32)) <<< ((6 : Int32) &&& 31))) ||| (p3 &&& (63 : Int32))) < (55296 : Int32) then (1 : Int32) else (if (57343 : Int32) < ((((p1 &&& (15 : Int32)) <<< ((12 : Int32) &&& 31)) ||| ((p2 &&& (63 : Int32)) <<< ((6 : Int32) &&& 31))) ||| (p3 &&& (63 : Int32))) then (1 : Int32) else (0 : Int32)))))))]))
              by_cases hb20 : (if (if (contF p2) = (0 : Int32) then (0 : Int32) else (if (contF p3) = (0 : Int32) then (0 : Int32) else (1 : Int32))) = (0 : Int32) then (0 : Int32) else (if ((((p1 &&& (15 : Int32)) <<< ((12 : Int32) &&& 31)) ||| ((p2 &&& (63 : Int32)) <<< ((6 : Int32) &&& 31))) ||| (p3 &&& (63 : Int32))) < (2048 : Int32) then (0 : Int32) else (if (1114111 : Int32) < ((((p1 &&& (15 : Int32)) <<< ((12 : Int32) &&& 31)) ||| ((p2 &&& (63 : Int32)) <<< ((6 : Int32) &&& 31))) ||| (p3 &&& (63 : Int32))) then (0 : Int32) else (if ((((p1 &&& (15 : Int32)) <<< ((12 : Int32) &&& 31)) ||| ((p2 &&& (63 : Int32)) <<< ((6 : Int32) &&& 31))) ||| (p3 &&& (63 : Int32))) < (55296 : Int32) then (1 : Int32) else (if (57343 : Int32) < ((((p1 &&& (15 : Int32)) <<< ((12 : Int32) &&& 31)) ||| ((p2 &&& (63 : Int32)) <<< ((6 : Int32) &&& 31))) ||| (p3 &&& (63 : Int32))) then (1 : Int32) else (0 : Int32)))))) = (0 : Int32)
              · refine Goes.on (fun t k => XS.ifYes XJ19.here hx rfl (pc0 := 243) (pc' := 251) rfl (hb hby d1_243) rfl ((if0 _ _).trans (teq hb20).1) (by decide) (by decide) k) ?_
                show Goes p e below QQ (TJ19.setTop (mkF m 251 #[iv p1, iv p2, iv p3, iv p4, iv p5, iv 3, iv ((((p1 &&& (15 : Int32)) <<< ((12 : Int32) &&& 31)) ||| ((p2 &&& (63 : Int32)) <<< ((6 : Int32) &&& 31))) ||| (p3 &&& (63 : Int32))), iv 2048, iv (if (contF p2) = (0 : Int32) then (0 : Int32) else (if (contF p3) = (0 : Int32) then (0 : Int32) else (1 : Int32))), iv (if (if (contF p2) = (0 : Int32) then (0 : Int32) else (if (contF p3) = (0 : Int32) then (0 : Int32) else (1 : Int32))) = (0 : Int32) then (0 : Int32) else (if ((((p1 &&& (15 : Int32)) <<< ((12 : Int32) &&& 31)) ||| ((p2 &&& (63 : Int32)) <<< ((6 : Int32) &&& 31))) ||| (p3 &&& (63 : Int32))) < (2048 : Int32) then (0 : Int32) else (if (1114111 : Int32) < ((((p1 &&& (15 : Int32)) <<< ((12 : Int32) &&& 31)) ||| ((p2 &&& (63 : Int32)) <<< ((6 : Int32) &&& 31))) ||| (p3 &&& (63 : Int32))) then (0 : Int32) else (if ((((p1 &&& (15 : Int32)) <<< ((12 : Int32) &&& 31)) ||| ((p2 &&& (63 : Int32)) <<< ((6 : Int32) &&& 31))) ||| (p3 &&& (63 : Int32))) < (55296 : Int32) then (1 : Int32) else (if (57343 : Int32) < ((((p1 &&& (15 : Int32)) <<< ((12 : Int32) &&& 31)) ||| ((p2 &&& (63 : Int32)) <<< ((6 : Int32) &&& 31))) ||| (p3 &&& (63 : Int32))) then (1 : Int32) else (0 : Int32))))))] []))
                refine Goes.on (fun t k => XS.iconst XJ19.here hx rfl (hb hby d1_251) k) ?_
                show Goes p e below QQ (TJ19.setTop (mkF m 252 #[iv p1, iv p2, iv p3, iv p4, iv p5, iv 3, iv ((((p1 &&& (15 : Int32)) <<< ((12 : Int32) &&& 31)) ||| ((p2 &&& (63 : Int32)) <<< ((6 : Int32) &&& 31))) ||| (p3 &&& (63 : Int32))), iv 2048, iv (if (contF p2) = (0 : Int32) then (0 : Int32) else (if (contF p3) = (0 : Int32) then (0 : Int32) else (1 : Int32))), iv (if (if (contF p2) = (0 : Int32) then (0 : Int32) else (if (contF p3) = (0 : Int32) then (0 : Int32) else (1 : Int32))) = (0 : Int32) then (0 : Int32) else (if ((((p1 &&& (15 : Int32)) <<< ((12 : Int32) &&& 31)) ||| ((p2 &&& (63 : Int32)) <<< ((6 : Int32) &&& 31))) ||| (p3 &&& (63 : Int32))) < (2048 : Int32) then (0 : Int32) else (if (1114111 : Int32) < ((((p1 &&& (15 : Int32)) <<< ((12 : Int32) &&& 31)) ||| ((p2 &&& (63 : Int32)) <<< ((6 : Int32) &&& 31))) ||| (p3 &&& (63 : Int32))) then (0 : Int32) else (if ((((p1 &&& (15 : Int32)) <<< ((12 : Int32) &&& 31)) ||| ((p2 &&& (63 : Int32)) <<< ((6 : Int32) &&& 31))) ||| (p3 &&& (63 : Int32))) < (55296 : Int32) then (1 : Int32) else (if (57343 : Int32) < ((((p1 &&& (15 : Int32)) <<< ((12 : Int32) &&& 31)) ||| ((p2 &&& (63 : Int32)) <<< ((6 : Int32) &&& 31))) ||| (p3 &&& (63 : Int32))) then (1 : Int32) else (0 : Int32))))))] [(.int 0)]))
                exact Goes.rI XJ19 hx hret hlk (hb hby d1_252) hQQ ⟨congrArg (fun z => some (Value.int z)) (((if_neg hb1).trans ((if_neg hb3).trans ((if_pos hb15).trans ((if_neg hb16).trans ((if_pos hb20).trans rfl))))) : (expF p1 p2 p3 p4 p5) = (0 : Int32)).symm, NJ19, eJ19⟩ (by decide) (by decide)
              · refine Goes.on (fun t k => XS.ifNo XJ19.here hx rfl (hb hby d1_243) rfl ((if0 _ _).trans (feq hb20).1) k) ?_
                show Goes p e below QQ (TJ19.setTop (mkF m 246 #[iv p1, iv p2, iv p3, iv p4, iv p5, iv 3, iv ((((p1 &&& (15 : Int32)) <<< ((12 : Int32) &&& 31)) ||| ((p2 &&& (63 : Int32)) <<< ((6 : Int32) &&& 31))) ||| (p3 &&& (63 : Int32))), iv 2048, iv (if (contF p2) = (0 : Int32) then (0 : Int32) else (if (contF p3) = (0 : Int32) then (0 : Int32) else (1 : Int32))), iv (if (if (contF p2) = (0 : Int32) then (0 : Int32) else (if (contF p3) = (0 : Int32) then (0 : Int32) else (1 : Int32))) = (0 : Int32) then (0 : Int32) else (if ((((p1 &&& (15 : Int32)) <<< ((12 : Int32) &&& 31)) ||| ((p2 &&& (63 : Int32)) <<< ((6 : Int32) &&& 31))) ||| (p3 &&& (63 : Int32))) < (2048 : Int32) then (0 : Int32) else (if (1114111 : Int32) < ((((p1 &&& (15 : Int32)) <<< ((12 : Int32) &&& 31)) ||| ((p2 &&& (63 : Int32)) <<< ((6 : Int32) &&& 31))) ||| (p3 &&& (63 : Int32))) then (0 : Int32) else (if ((((p1 &&& (15 : Int32)) <<< ((12 : Int32) &&& 31)) ||| ((p2 &&& (63 : Int32)) <<< ((6 : Int32) &&& 31))) ||| (p3 &&& (63 : Int32))) < (55296 : Int32) then (1 : Int32) else (if (57343 : Int32) < ((((p1 &&& (15 : Int32)) <<< ((12 : Int32) &&& 31)) ||| ((p2 &&& (63 : Int32)) <<< ((6 : Int32) &&& 31))) ||| (p3 &&& (63 : Int32))) then (1 : Int32) else (0 : Int32))))))] []))
                refine Goes.on (fun t k => XS.iload XJ19.here hx rfl (hb hby d1_246) rfl k) ?_
                show Goes p e below QQ (TJ19.setTop (mkF m 248 #[iv p1, iv p2, iv p3, iv p4, iv p5, iv 3, iv ((((p1 &&& (15 : Int32)) <<< ((12 : Int32) &&& 31)) ||| ((p2 &&& (63 : Int32)) <<< ((6 : Int32) &&& 31))) ||| (p3 &&& (63 : Int32))), iv 2048, iv (if (contF p2) = (0 : Int32) then (0 : Int32) else (if (contF p3) = (0 : Int32) then (0 : Int32) else (1 : Int32))), iv (if (if (contF p2) = (0 : Int32) then (0 : Int32) else (if (contF p3) = (0 : Int32) then (0 : Int32) else (1 : Int32))) = (0 : Int32) then (0 : Int32) else (if ((((p1 &&& (15 : Int32)) <<< ((12 : Int32) &&& 31)) ||| ((p2 &&& (63 : Int32)) <<< ((6 : Int32) &&& 31))) ||| (p3 &&& (63 : Int32))) < (2048 : Int32) then (0 : Int32) else (if (1114111 : Int32) < ((((p1 &&& (15 : Int32)) <<< ((12 : Int32) &&& 31)) ||| ((p2 &&& (63 : Int32)) <<< ((6 : Int32) &&& 31))) ||| (p3 &&& (63 : Int32))) then (0 : Int32) else (if ((((p1 &&& (15 : Int32)) <<< ((12 : Int32) &&& 31)) ||| ((p2 &&& (63 : Int32)) <<< ((6 : Int32) &&& 31))) ||| (p3 &&& (63 : Int32))) < (55296 : Int32) then (1 : Int32) else (if (57343 : Int32) < ((((p1 &&& (15 : Int32)) <<< ((12 : Int32) &&& 31)) ||| ((p2 &&& (63 : Int32)) <<< ((6 : Int32) &&& 31))) ||| (p3 &&& (63 : Int32))) then (1 : Int32) else (0 : Int32))))))] [(.int 3)]))
                refine Goes.on (fun t k => XS.goto XJ19.here hx rfl (pc0 := 248) (pc' := 252) rfl (hb hby d1_248) (by decide) (by decide) k) ?_
                show Goes p e below QQ (TJ19.setTop (mkF m 252 #[iv p1, iv p2, iv p3, iv p4, iv p5, iv 3, iv ((((p1 &&& (15 : Int32)) <<< ((12 : Int32) &&& 31)) ||| ((p2 &&& (63 : Int32)) <<< ((6 : Int32) &&& 31))) ||| (p3 &&& (63 : Int32))), iv 2048, iv (if (contF p2) = (0 : Int32) then (0 : Int32) else (if (contF p3) = (0 : Int32) then (0 : Int32) else (1 : Int32))), iv (if (if (contF p2) = (0 : Int32) then (0 : Int32) else (if (contF p3) = (0 : Int32) then (0 : Int32) else (1 : Int32))) = (0 : Int32) then (0 : Int32) else (if ((((p1 &&& (15 : Int32)) <<< ((12 : Int32) &&& 31)) ||| ((p2 &&& (63 : Int32)) <<< ((6 : Int32) &&& 31))) ||| (p3 &&& (63 : Int32))) < (2048 : Int32) then (0 : Int32) else (if (1114111 : Int32) < ((((p1 &&& (15 : Int32)) <<< ((12 : Int32) &&& 31)) ||| ((p2 &&& (63 : Int32)) <<< ((6 : Int32) &&& 31))) ||| (p3 &&& (63 : Int32))) then (0 : Int32) else (if ((((p1 &&& (15 : Int32)) <<< ((12 : Int32) &&& 31)) ||| ((p2 &&& (63 : Int32)) <<< ((6 : Int32) &&& 31))) ||| (p3 &&& (63 : Int32))) < (55296 : Int32) then (1 : Int32) else (if (57343 : Int32) < ((((p1 &&& (15 : Int32)) <<< ((12 : Int32) &&& 31)) ||| ((p2 &&& (63 : Int32)) <<< ((6 : Int32) &&& 31))) ||| (p3 &&& (63 : Int32))) then (1 : Int32) else (0 : Int32))))))] [(.int 3)]))
                exact Goes.rI XJ19 hx hret hlk (hb hby d1_252) hQQ ⟨congrArg (fun z => some (Value.int z)) (((if_neg hb1).trans ((if_neg hb3).trans ((if_pos hb15).trans ((if_neg hb16).trans ((if_neg hb20).trans rfl))))) : (expF p1 p2 p3 p4 p5) = (3 : Int32)).symm, NJ19, eJ19⟩ (by decide) (by decide)
            show Goes p e below QQ (TJ18.setTop (mkF m 203 #[iv p1, iv p2, iv p3, iv p4, iv p5, iv 3, iv ((((p1 &&& (15 : Int32)) <<< ((12 : Int32) &&& 31)) ||| ((p2 &&& (63 : Int32)) <<< ((6 : Int32) &&& 31))) ||| (p3 &&& (63 : Int32))), iv 2048, iv (if (contF p2) = (0 : Int32) then (0 : Int32) else (if (contF p3) = (0 : Int32) then (0 : Int32) else (1 : Int32))), .unset] [(.int (if (contF p2) = (0 : Int32) then (0 : Int32) else (if (contF p3) = (0 : Int32) then (0 : Int32) else (1 : Int32))))]))
            by_cases hb21 : (if (contF p2) = (0 : Int32) then (0 : Int32) else (if (contF p3) = (0 : Int32) then (0 : Int32) else (1 : Int32))) = (0 : Int32)
            · refine Goes.on (fun t k => XS.ifYes XJ18.here hx rfl (pc0 := 203) (pc' := 238) rfl (hb hby d1_203) rfl ((if0 _ _).trans (teq hb21).1) (by decide) (by decide) k) ?_
              show Goes p e below QQ (TJ18.setTop (mkF m 238 #[iv p1, iv p2, iv p3, iv p4, iv p5, iv 3, iv ((((p1 &&& (15 : Int32)) <<< ((12 : Int32) &&& 31)) ||| ((p2 &&& (63 : Int32)) <<< ((6 : Int32) &&& 31))) ||| (p3 &&& (63 : Int32))), iv 2048, iv (if (contF p2) = (0 : Int32) then (0 : Int32) else (if (contF p3) = (0 : Int32) then (0 : Int32) else (1 : Int32))), .unset] []))
              refine Goes.on (fun t k => XS.iconst XJ18.here hx rfl (hb hby d1_238) k) ?_
              show Goes p e below QQ (TJ18.setTop (mkF m 239 #[iv p1, iv p2, iv p3, iv p4, iv p5, iv 3, iv ((((p1 &&& (15 : Int32)) <<< ((12 : Int32) &&& 31)) ||| ((p2 &&& (63 : Int32)) <<< ((6 : Int32) &&& 31))) ||| (p3 &&& (63 : Int32))), iv 2048, iv (if (contF p2) = (0 : Int32) then (0 : Int32) else (if (contF p3) = (0 : Int32) then (0 : Int32) else (1 : Int32))), .unset] [(.int 0)]))
              rw [(((if_pos hb21).trans rfl) : (if (if (contF p2) = (0 : Int32) then (0 : Int32) else (if (contF p3) = (0 : Int32) then (0 : Int32) else (1 : Int32))) = (0 : Int32) then (0 : Int32) else (if ((((p1 &&& (15 : Int32)) <<< ((12 : Int32) &&& 31)) ||| ((p2 &&& (63 : Int32)) <<< ((6 : Int32) &&& 31))) ||| (p3 &&& (63 : Int32))) < (2048 : Int32) then (0 : Int32) else (if (1114111 : Int32) < ((((p1 &&& (15 : Int32)) <<< ((12 : Int32) &&& 31)) ||| ((p2 &&& (63 : Int32)) <<< ((6 : Int32) &&& 31))) ||| (p3 &&& (63 : Int32))) then (0 : Int32) else (if ((((p1 &&& (15 : Int32)) <<< ((12 : Int32) &&& 31)) ||| ((p2 &&& (63 : Int32)) <<< ((6 : Int32) &&& 31))) ||| (p3 &&& (63 : Int32))) < (55296 : Int32) then (1 : Int32) else (if (57343 : Int32) < ((((p1 &&& (15 : Int32)) <<< ((12 : Int32) &&& 31)) ||| ((p2 &&& (63 : Int32)) <<< ((6 : Int32) &&& 31))) ||| (p3 &&& (63 : Int32))) then (1 : Int32) else (0 : Int32)))))) = (0 : Int32))] at J19
              exact J19 _ _ XJ18 eJ18 NJ18
            · refine Goes.on (fun t k => XS.ifNo XJ18.here hx rfl (hb hby d1_203) rfl ((if0 _ _).trans (feq hb21).1) k) ?_
              show Goes p e below QQ (TJ18.setTop (mkF m 206 #[iv p1, iv p2, iv p3, iv p4, iv p5, iv 3, iv ((((p1 &&& (15 : Int32)) <<< ((12 : Int32) &&& 31)) ||| ((p2 &&& (63 : Int32)) <<< ((6 : Int32) &&& 31))) ||| (p3 &&& (63 : Int32))), iv 2048, iv (if (contF p2) = (0 : Int32) then (0 : Int32) else (if (contF p3) = (0 : Int32) then (0 : Int32) else (1 : Int32))), .unset] []))
              refine Goes.on (fun t k => XS.iload XJ18.here hx rfl (hb hby d1_206) rfl k) ?_
              show Goes p e below QQ (TJ18.setTop (mkF m 208 #[iv p1, iv p2, iv p3, iv p4, iv p5, iv 3, iv ((((p1 &&& (15 : Int32)) <<< ((12 : Int32) &&& 31)) ||| ((p2 &&& (63 : Int32)) <<< ((6 : Int32) &&& 31))) ||| (p3 &&& (63 : Int32))), iv 2048, iv (if (contF p2) = (0 : Int32) then (0 : Int32) else (if (contF p3) = (0 : Int32) then (0 : Int32) else (1 : Int32))), .unset] [(.int ((((p1 &&& (15 : Int32)) <<< ((12 : Int32) &&& 31)) ||| ((p2 &&& (63 : Int32)) <<< ((6 : Int32) &&& 31))) ||| (p3 &&& (63 : Int32))))]))
              refine Goes.on (fun t k => XS.iload XJ18.here hx rfl (hb hby d1_208) rfl k) ?_
              show Goes p e below QQ (TJ18.setTop (mkF m 210 #[iv p1, iv p2, iv p3, iv p4, iv p5, iv 3, iv ((((p1 &&& (15 : Int32)) <<< ((12 : Int32) &&& 31)) ||| ((p2 &&& (63 : Int32)) <<< ((6 : Int32) &&& 31))) ||| (p3 &&& (63 : Int32))), iv 2048, iv (if (contF p2) = (0 : Int32) then (0 : Int32) else (if (contF p3) = (0 : Int32) then (0 : Int32) else (1 : Int32))), .unset] [(.int 2048), (.int ((((p1 &&& (15 : Int32)) <<< ((12 : Int32) &&& 31)) ||| ((p2 &&& (63 : Int32)) <<< ((6 : Int32) &&& 31))) ||| (p3 &&& (63 : Int32))))]))
              by_cases hb22 : ((((p1 &&& (15 : Int32)) <<< ((12 : Int32) &&& 31)) ||| ((p2 &&& (63 : Int32)) <<< ((6 : Int32) &&& 31))) ||| (p3 &&& (63 : Int32))) < (2048 : Int32)
              · refine Goes.on (fun t k => XS.icmpYes XJ18.here hx rfl (pc0 := 210) (pc' := 238) rfl (hb hby d1_210) rfl (tlt hb22).1 (by decide) (by decide) k) ?_
                show Goes p e below QQ (TJ18.setTop (mkF m 238 #[iv p1, iv p2, iv p3, iv p4, iv p5, iv 3, iv ((((p1 &&& (15 : Int32)) <<< ((12 : Int32) &&& 31)) ||| ((p2 &&& (63 : Int32)) <<< ((6 : Int32) &&& 31))) ||| (p3 &&& (63 : Int32))), iv 2048, iv (if (contF p2) = (0 : Int32) then (0 : Int32) else (if (contF p3) = (0 : Int32) then (0 : Int32) else (1 : Int32))), .unset] []))
                refine Goes.on (fun t k => XS.iconst XJ18.here hx rfl (hb hby d1_238) k) ?_
                show Goes p e below QQ (TJ18.setTop (mkF m 239 #[iv p1, iv p2, iv p3, iv p4, iv p5, iv 3, iv ((((p1 &&& (15 : Int32)) <<< ((12 : Int32) &&& 31)) ||| ((p2 &&& (63 : Int32)) <<< ((6 : Int32) &&& 31))) ||| (p3 &&& (63 : Int32))), iv 2048, iv (if (contF p2) = (0 : Int32) then (0 : Int32) else (if (contF p3) = (0 : Int32) then (0 : Int32) else (1 : Int32))), .unset] [(.int 0)]))
                rw [(((if_neg hb21).trans ((if_pos hb22).trans rfl)) : (if (if (contF p2) = (0 : Int32) then (0 : Int32) else (if (contF p3) = (0 : Int32) then (0 : Int32) else (1 : Int32))) = (0 : Int32) then (0 : Int32) else (if ((((p1 &&& (15 : Int32)) <<< ((12 : Int32) &&& 31)) ||| ((p2 &&& (63 : Int32)) <<< ((6 : Int32) &&& 31))) ||| (p3 &&& (63 : Int32))) < (2048 : Int32) then (0 : Int32) else (if (1114111 : Int32) < ((((p1 &&& (15 : Int32)) <<< ((12 : Int32) &&& 31)) ||| ((p2 &&& (63 : Int32)) <<< ((6 : Int32) &&& 31))) ||| (p3 &&& (63 : Int32))) then (0 : Int32) else (if ((((p1 &&& (15 : Int32)) <<< ((12 : Int32) &&& 31)) ||| ((p2 &&& (63 : Int32)) <<< ((6 : Int32) &&& 31))) ||| (p3 &&& (63 : Int32))) < (55296 : Int32) then (1 : Int32) else (if (57343 : Int32) < ((((p1 &&& (15 : Int32)) <<< ((12 : Int32) &&& 31)) ||| ((p2 &&& (63 : Int32)) <<< ((6 : Int32) &&& 31))) ||| (p3 &&& (63 : Int32))) then (1 : Int32) else (0 : Int32)))))) = (0 : Int32))] at J19
                exact J19 _ _ XJ18 eJ18 NJ18
              · refine Goes.on (fun t k => XS.icmpNo XJ18.here hx rfl (hb hby d1_210) rfl (flt hb22).1 k) ?_
                show Goes p e below QQ (TJ18.setTop (mkF m 213 #[iv p1, iv p2, iv p3, iv p4, iv p5, iv 3, iv ((((p1 &&& (15 : Int32)) <<< ((12 : Int32) &&& 31)) ||| ((p2 &&& (63 : Int32)) <<< ((6 : Int32) &&& 31))) ||| (p3 &&& (63 : Int32))), iv 2048, iv (if (contF p2) = (0 : Int32) then (0 : Int32) else (if (contF p3) = (0 : Int32) then (0 : Int32) else (1 : Int32))), .unset] []))
                refine Goes.on (fun t k => XS.iload XJ18.here hx rfl (hb hby d1_213) rfl k) ?_
                show Goes p e below QQ (TJ18.setTop (mkF m 215 #[iv p1, iv p2, iv p3, iv p4, iv p5, iv 3, iv ((((p1 &&& (15 : Int32)) <<< ((12 : Int32) &&& 31)) ||| ((p2 &&& (63 : Int32)) <<< ((6 : Int32) &&& 31))) ||| (p3 &&& (63 : Int32))), iv 2048, iv (if (contF p2) = (0 : Int32) then (0 : Int32) else (if (contF p3) = (0 : Int32) then (0 : Int32) else (1 : Int32))), .unset] [(.int ((((p1 &&& (15 : Int32)) <<< ((12 : Int32) &&& 31)) ||| ((p2 &&& (63 : Int32)) <<< ((6 : Int32) &&& 31))) ||| (p3 &&& (63 : Int32))))]))
                refine Goes.on (fun t k => XJ18.ldcInt hx hown (mvT hZ (hw _ (List.mem_of_getElem? (i := 14) rfl))) (g := (mkF m 215 #[iv p1, iv p2, iv p3, iv p4, iv p5, iv 3, iv ((((p1 &&& (15 : Int32)) <<< ((12 : Int32) &&& 31)) ||| ((p2 &&& (63 : Int32)) <<< ((6 : Int32) &&& 31))) ||| (p3 &&& (63 : Int32))), iv 2048, iv (if (contF p2) = (0 : Int32) then (0 : Int32) else (if (contF p3) = (0 : Int32) then (0 : Int32) else (1 : Int32))), .unset] [(.int ((((p1 &&& (15 : Int32)) <<< ((12 : Int32) &&& 31)) ||| ((p2 &&& (63 : Int32)) <<< ((6 : Int32) &&& 31))) ||| (p3 &&& (63 : Int32))))])) rfl (hb hby d1_215) t k) ?_
                show Goes p e below QQ (TJ18.setTop (mkF m 217 #[iv p1, iv p2, iv p3, iv p4, iv p5, iv 3, iv ((((p1 &&& (15 : Int32)) <<< ((12 : Int32) &&& 31)) ||| ((p2 &&& (63 : Int32)) <<< ((6 : Int32) &&& 31))) ||| (p3 &&& (63 : Int32))), iv 2048, iv (if (contF p2) = (0 : Int32) then (0 : Int32) else (if (contF p3) = (0 : Int32) then (0 : Int32) else (1 : Int32))), .unset] [(.int 1114111), (.int ((((p1 &&& (15 : Int32)) <<< ((12 : Int32) &&& 31)) ||| ((p2 &&& (63 : Int32)) <<< ((6 : Int32) &&& 31))) ||| (p3 &&& (63 : Int32))))]))
                by_cases hb23 : (1114111 : Int32) < ((((p1 &&& (15 : Int32)) <<< ((12 : Int32) &&& 31)) ||| ((p2 &&& (63 : Int32)) <<< ((6 : Int32) &&& 31))) ||| (p3 &&& (63 : Int32)))
                · refine Goes.on (fun t k => XS.icmpYes XJ18.here hx rfl (pc0 := 217) (pc' := 238) rfl (hb hby d1_217) rfl (tlt hb23).2.2.1 (by decide) (by decide) k) ?_
                  show Goes p e below QQ (TJ18.setTop (mkF m 238 #[iv p1, iv p2, iv p3, iv p4, iv p5, iv 3, iv ((((p1 &&& (15 : Int32)) <<< ((12 : Int32) &&& 31)) ||| ((p2 &&& (63 : Int32)) <<< ((6 : Int32) &&& 31))) ||| (p3 &&& (63 : Int32))), iv 2048, iv (if (contF p2) = (0 : Int32) then (0 : Int32) else (if (contF p3) = (0 : Int32) then (0 : Int32) else (1 : Int32))), .unset] []))
                  refine Goes.on (fun t k => XS.iconst XJ18.here hx rfl (hb hby d1_238) k) ?_
                  show Goes p e below QQ (TJ18.setTop (mkF m 239 #[iv p1, iv p2, iv p3, iv p4, iv p5, iv 3, iv ((((p1 &&& (15 : Int32)) <<< ((12 : Int32) &&& 31)) ||| ((p2 &&& (63 : Int32)) <<< ((6 : Int32) &&& 31))) ||| (p3 &&& (63 : Int32))), iv 2048, iv (if (contF p2) = (0 : Int32) then (0 : Int32) else (if (contF p3) = (0 : Int32) then (0 : Int32) else (1 : Int32))), .unset] [(.int 0)]))
                  rw [(((if_neg hb21).trans ((if_neg hb22).trans ((if_pos hb23).trans rfl))) : (if (if (contF p2) = (0 : Int32) then (0 : Int32) else (if (contF p3) = (0 : Int32) then (0 : Int32) else (1 : Int32))) = (0 : Int32) then (0 : Int32) else (if ((((p1 &&& (15 : Int32)) <<< ((12 : Int32) &&& 31)) ||| ((p2 &&& (63 : Int32)) <<< ((6 : Int32) &&& 31))) ||| (p3 &&& (63 : Int32))) < (2048 : Int32) then (0 : Int32) else (if (1114111 : Int32) < ((((p1 &&& (15 : Int32)) <<< ((12 : Int32) &&& 31)) ||| ((p2 &&& (63 : Int32)) <<< ((6 : Int32) &&& 31))) ||| (p3 &&& (63 : Int32))) then (0 : Int32) else (if ((((p1 &&& (15 : Int32)) <<< ((12 : Int32) &&& 31)) ||| ((p2 &&& (63 : Int32)) <<< ((6 : Int32) &&& 31))) ||| (p3 &&& (63 : Int32))) < (55296 : Int32) then (1 : Int32) else (if (57343 : Int32) < ((((p1 &&& (15 : Int32)) <<< ((12 : Int32) &&& 31)) ||| ((p2 &&& (63 : Int32)) <<< ((6 : Int32) &&& 31))) ||| (p3 &&& (63 : Int32))) then (1 : Int32) else (0 : Int32)))))) = (0 : Int32))] at J19
                  exact J19 _ _ XJ18 eJ18 NJ18
                · refine Goes.on (fun t k => XS.icmpNo XJ18.here hx rfl (hb hby d1_217) rfl (flt hb23).2.2.1 k) ?_
                  show Goes p e below QQ (TJ18.setTop (mkF m 220 #[iv p1, iv p2, iv p3, iv p4, iv p5, iv 3, iv ((((p1 &&& (15 : Int32)) <<< ((12 : Int32) &&& 31)) ||| ((p2 &&& (63 : Int32)) <<< ((6 : Int32) &&& 31))) ||| (p3 &&& (63 : Int32))), iv 2048, iv (if (contF p2) = (0 : Int32) then (0 : Int32) else (if (contF p3) = (0 : Int32) then (0 : Int32) else (1 : Int32))), .unset] []))
                  refine Goes.on (fun t k => XS.iload XJ18.here hx rfl (hb hby d1_220) rfl k) ?_
                  show Goes p e below QQ (TJ18.setTop (mkF m 222 #[iv p1, iv p2, iv p3, iv p4, iv p5, iv 3, iv ((((p1 &&& (15 : Int32)) <<< ((12 : Int32) &&& 31)) ||| ((p2 &&& (63 : Int32)) <<< ((6 : Int32) &&& 31))) ||| (p3 &&& (63 : Int32))), iv 2048, iv (if (contF p2) = (0 : Int32) then (0 : Int32) else (if (contF p3) = (0 : Int32) then (0 : Int32) else (1 : Int32))), .unset] [(.int ((((p1 &&& (15 : Int32)) <<< ((12 : Int32) &&& 31)) ||| ((p2 &&& (63 : Int32)) <<< ((6 : Int32) &&& 31))) ||| (p3 &&& (63 : Int32))))]))
                  refine Goes.on (fun t k => XJ18.ldcInt hx hown (mvT hZ (hw _ (List.mem_of_getElem? (i := 15) rfl))) (g := (mkF m 222 #[iv p1, iv p2, iv p3, iv p4, iv p5, iv 3, iv ((((p1 &&& (15 : Int32)) <<< ((12 : Int32) &&& 31)) ||| ((p2 &&& (63 : Int32)) <<< ((6 : Int32) &&& 31))) ||| (p3 &&& (63 : Int32))), iv 2048, iv (if (contF p2) = (0 : Int32) then (0 : Int32) else (if (contF p3) = (0 : Int32) then (0 : Int32) else (1 : Int32))), .unset] [(.int ((((p1 &&& (15 : Int32)) <<< ((12 : Int32) &&& 31)) ||| ((p2 &&& (63 : Int32)) <<< ((6 : Int32) &&& 31))) ||| (p3 &&& (63 : Int32))))])) rfl (hb hby d1_222) t k) ?_
                  show Goes p e below QQ (TJ18.setTop (mkF m 224 #[iv p1, iv p2, iv p3, iv p4, iv p5, iv 3, iv ((((p1 &&& (15 : Int32)) <<< ((12 : Int32) &&& 31)) ||| ((p2 &&& (63 : Int32)) <<< ((6 : Int32) &&& 31))) ||| (p3 &&& (63 : Int32))), iv 2048, iv (if (contF p2) = (0 : Int32) then (0 : Int32) else (if (contF p3) = (0 : Int32) then (0 : Int32) else (1 : Int32))), .unset] [(.int 55296), (.int ((((p1 &&& (15 : Int32)) <<< ((12 : Int32) &&& 31)) ||| ((p2 &&& (63 : Int32)) <<< ((6 : Int32) &&& 31))) ||| (p3 &&& (63 : Int32))))]))
                  by_cases hb24 : ((((p1 &&& (15 : Int32)) <<< ((12 : Int32) &&& 31)) ||| ((p2 &&& (63 : Int32)) <<< ((6 : Int32) &&& 31))) ||| (p3 &&& (63 : Int32))) < (55296 : Int32)
                  · refine Goes.on (fun t k => XS.icmpYes XJ18.here hx rfl (pc0 := 224) (pc' := 234) rfl (hb hby d1_224) rfl (tlt hb24).1 (by decide) (by decide) k) ?_
                    show Goes p e below QQ (TJ18.setTop (mkF m 234 #[iv p1, iv p2, iv p3, iv p4, iv p5, iv 3, iv ((((p1 &&& (15 : Int32)) <<< ((12 : Int32) &&& 31)) ||| ((p2 &&& (63 : Int32)) <<< ((6 : Int32) &&& 31))) ||| (p3 &&& (63 : Int32))), iv 2048, iv (if (contF p2) = (0 : Int32) then (0 : Int32) else (if (contF p3) = (0 : Int32) then (0 : Int32) else (1 : Int32))), .unset] []))
                    refine Goes.on (fun t k => XS.iconst XJ18.here hx rfl (hb hby d1_234) k) ?_
                    show Goes p e below QQ (TJ18.setTop (mkF m 235 #[iv p1, iv p2, iv p3, iv p4, iv p5, iv 3, iv ((((p1 &&& (15 : Int32)) <<< ((12 : Int32) &&& 31)) ||| ((p2 &&& (63 : Int32)) <<< ((6 : Int32) &&& 31))) ||| (p3 &&& (63 : Int32))), iv 2048, iv (if (contF p2) = (0 : Int32) then (0 : Int32) else (if (contF p3) = (0 : Int32) then (0 : Int32) else (1 : Int32))), .unset] [(.int 1)]))
                    refine Goes.on (fun t k => XS.goto XJ18.here hx rfl (pc0 := 235) (pc' := 239) rfl (hb hby d1_235) (by decide) (by decide) k) ?_
                    show Goes p e below QQ (TJ18.setTop (mkF m 239 #[iv p1, iv p2, iv p3, iv p4, iv p5, iv 3, iv ((((p1 &&& (15 : Int32)) <<< ((12 : Int32) &&& 31)) ||| ((p2 &&& (63 : Int32)) <<< ((6 : Int32) &&& 31))) ||| (p3 &&& (63 : Int32))), iv 2048, iv (if (contF p2) = (0 : Int32) then (0 : Int32) else (if (contF p3) = (0 : Int32) then (0 : Int32) else (1 : Int32))), .unset] [(.int 1)]))
                    rw [(((if_neg hb21).trans ((if_neg hb22).trans ((if_neg hb23).trans ((if_pos hb24).trans rfl)))) : (if (if (contF p2) = (0 : Int32) then (0 : Int32) else (if (contF p3) = (0 : Int32) then (0 : Int32) else (1 : Int32))) = (0 : Int32) then (0 : Int32) else (if ((((p1 &&& (15 : Int32)) <<< ((12 : Int32) &&& 31)) ||| ((p2 &&& (63 : Int32)) <<< ((6 : Int32) &&& 31))) ||| (p3 &&& (63 : Int32))) < (2048 : Int32) then (0 : Int32) else (if (1114111 : Int32) < ((((p1 &&& (15 : Int32)) <<< ((12 : Int32) &&& 31)) ||| ((p2 &&& (63 : Int32)) <<< ((6 : Int32) &&& 31))) ||| (p3 &&& (63 : Int32))) then (0 : Int32) else (if ((((p1 &&& (15 : Int32)) <<< ((12 : Int32) &&& 31)) ||| ((p2 &&& (63 : Int32)) <<< ((6 : Int32) &&& 31))) ||| (p3 &&& (63 : Int32))) < (55296 : Int32) then (1 : Int32) else (if (57343 : Int32) < ((((p1 &&& (15 : Int32)) <<< ((12 : Int32) &&& 31)) ||| ((p2 &&& (63 : Int32)) <<< ((6 : Int32) &&& 31))) ||| (p3 &&& (63 : Int32))) then (1 : Int32) else (0 : Int32)))))) = (1 : Int32))] at J19
                    exact J19 _ _ XJ18 eJ18 NJ18
                  · refine Goes.on (fun t k => XS.icmpNo XJ18.here hx rfl (hb hby d1_224) rfl (flt hb24).1 k) ?_
                    show Goes p e below QQ (TJ18.setTop (mkF m 227 #[iv p1, iv p2, iv p3, iv p4, iv p5, iv 3, iv ((((p1 &&& (15 : Int32)) <<< ((12 : Int32) &&& 31)) ||| ((p2 &&& (63 : Int32)) <<< ((6 : Int32) &&& 31))) ||| (p3 &&& (63 : Int32))), iv 2048, iv (if (contF p2) = (0 : Int32) then (0 : Int32) else (if (contF p3) = (0 : Int32) then (0 : Int32) else (1 : Int32))), .unset] []))
                    refine Goes.on (fun t k => XS.iload XJ18.here hx rfl (hb hby d1_227) rfl k) ?_
                    show Goes p e below QQ (TJ18.setTop (mkF m 229 #[iv p1, iv p2, iv p3, iv p4, iv p5, iv 3, iv ((((p1 &&& (15 : Int32)) <<< ((12 : Int32) &&& 31)) ||| ((p2 &&& (63 : Int32)) <<< ((6 : Int32) &&& 31))) ||| (p3 &&& (63 : Int32))), iv 2048, iv (if (contF p2) = (0 : Int32) then (0 : Int32) else (if (contF p3) = (0 : Int32) then (0 : Int32) else (1 : Int32))), .unset] [(.int ((((p1 &&& (15 : Int32)) <<< ((12 : Int32) &&& 31)) ||| ((p2 &&& (63 : Int32)) <<< ((6 : Int32) &&& 31))) ||| (p3 &&& (63 : Int32))))]))
                    refine Goes.on (fun t k => XJ18.ldcInt hx hown (mvT hZ (hw _ (List.mem_of_getElem? (i := 16) rfl))) (g := (mkF m 229 #[iv p1, iv p2, iv p3, iv p4, iv p5, iv 3, iv ((((p1 &&& (15 : Int32)) <<< ((12 : Int32) &&& 31)) ||| ((p2 &&& (63 : Int32)) <<< ((6 : Int32) &&& 31))) ||| (p3 &&& (63 : Int32))), iv 2048, iv (if (contF p2) = (0 : Int32) then (0 : Int32) else (if (contF p3) = (0 : Int32) then (0 : Int32) else (1 : Int32))), .unset] [(.int ((((p1 &&& (15 : Int32)) <<< ((12 : Int32) &&& 31)) ||| ((p2 &&& (63 : Int32)) <<< ((6 : Int32) &&& 31))) ||| (p3 &&& (63 : Int32))))])) rfl (hb hby d1_229) t k) ?_
                    show Goes p e below QQ (TJ18.setTop (mkF m 231 #[iv p1, iv p2, iv p3, iv p4, iv p5, iv 3, iv ((((p1 &&& (15 : Int32)) <<< ((12 : Int32) &&& 31)) ||| ((p2 &&& (63 : Int32)) <<< ((6 : Int32) &&& 31))) ||| (p3 &&& (63 : Int32))), iv 2048, iv (if (contF p2) = (0 : Int32) then (0 : Int32) else (if (contF p3) = (0 : Int32) then (0 : Int32) else (1 : Int32))), .unset] [(.int 57343), (.int ((((p1 &&& (15 : Int32)) <<< ((12 : Int32) &&& 31)) ||| ((p2 &&& (63 : Int32)) <<< ((6 : Int32) &&& 31))) ||| (p3 &&& (63 : Int32))))]))
                    by_cases hb25 : (57343 : Int32) < ((((p1 &&& (15 : Int32)) <<< ((12 : Int32) &&& 31)) ||| ((p2 &&& (63 : Int32)) <<< ((6 : Int32) &&& 31))) ||| (p3 &&& (63 : Int32)))
                    · refine Goes.on (fun t k => XS.icmpNo XJ18.here hx rfl (hb hby d1_231) rfl (tlt hb25).2.2.2 k) ?_
                      show Goes p e below QQ (TJ18.setTop (mkF m 234 #[iv p1, iv p2, iv p3, iv p4, iv p5, iv 3, iv ((((p1 &&& (15 : Int32)) <<< ((12 : Int32) &&& 31)) ||| ((p2 &&& (63 : Int32)) <<< ((6 : Int32) &&& 31))) ||| (p3 &&& (63 : Int32))), iv 2048, iv (if (contF p2) = (0 : Int32) then (0 : Int32) else (if (contF p3) = (0 : Int32) then (0 : Int32) else (1 : Int32))), .unset] []))
                      refine Goes.on (fun t k => XS.iconst XJ18.here hx rfl (hb hby d1_234) k) ?_
                      show Goes p e below QQ (TJ18.setTop (mkF m 235 #[iv p1, iv p2, iv p3, iv p4, iv p5, iv 3, iv ((((p1 &&& (15 : Int32)) <<< ((12 : Int32) &&& 31)) ||| ((p2 &&& (63 : Int32)) <<< ((6 : Int32) &&& 31))) ||| (p3 &&& (63 : Int32))), iv 2048, iv (if (contF p2) = (0 : Int32) then (0 : Int32) else (if (contF p3) = (0 : Int32) then (0 : Int32) else (1 : Int32))), .unset] [(.int 1)]))
                      refine Goes.on (fun t k => XS.goto XJ18.here hx rfl (pc0 := 235) (pc' := 239) rfl (hb hby d1_235) (by decide) (by decide) k) ?_
                      show Goes p e below QQ (TJ18.setTop (mkF m 239 #[iv p1, iv p2, iv p3, iv p4, iv p5, iv 3, iv ((((p1 &&& (15 : Int32)) <<< ((12 : Int32) &&& 31)) ||| ((p2 &&& (63 : Int32)) <<< ((6 : Int32) &&& 31))) ||| (p3 &&& (63 : Int32))), iv 2048, iv (if (contF p2) = (0 : Int32) then (0 : Int32) else (if (contF p3) = (0 : Int32) then (0 : Int32) else (1 : Int32))), .unset] [(.int 1)]))
                      rw [(((if_neg hb21).trans ((if_neg hb22).trans ((if_neg hb23).trans ((if_neg hb24).trans ((if_pos hb25).trans rfl))))) : (if (if (contF p2) = (0 : Int32) then (0 : Int32) else (if (contF p3) = (0 : Int32) then (0 : Int32) else (1 : Int32))) = (0 : Int32) then (0 : Int32) else (if ((((p1 &&& (15 : Int32)) <<< ((12 : Int32) &&& 31)) ||| ((p2 &&& (63 : Int32)) <<< ((6 : Int32) &&& 31))) ||| (p3 &&& (63 : Int32))) < (2048 : Int32) then (0 : Int32) else (if (1114111 : Int32) < ((((p1 &&& (15 : Int32)) <<< ((12 : Int32) &&& 31)) ||| ((p2 &&& (63 : Int32)) <<< ((6 : Int32) &&& 31))) ||| (p3 &&& (63 : Int32))) then (0 : Int32) else (if ((((p1 &&& (15 : Int32)) <<< ((12 : Int32) &&& 31)) ||| ((p2 &&& (63 : Int32)) <<< ((6 : Int32) &&& 31))) ||| (p3 &&& (63 : Int32))) < (55296 : Int32) then (1 : Int32) else (if (57343 : Int32) < ((((p1 &&& (15 : Int32)) <<< ((12 : Int32) &&& 31)) ||| ((p2 &&& (63 : Int32)) <<< ((6 : Int32) &&& 31))) ||| (p3 &&& (63 : Int32))) then (1 : Int32) else (0 : Int32)))))) = (1 : Int32))] at J19
                      exact J19 _ _ XJ18 eJ18 NJ18
                    · refine Goes.on (fun t k => XS.icmpYes XJ18.here hx rfl (pc0 := 231) (pc' := 238) rfl (hb hby d1_231) rfl (flt hb25).2.2.2 (by decide) (by decide) k) ?_
                      show Goes p e below QQ (TJ18.setTop (mkF m 238 #[iv p1, iv p2, iv p3, iv p4, iv p5, iv 3, iv ((((p1 &&& (15 : Int32)) <<< ((12 : Int32) &&& 31)) ||| ((p2 &&& (63 : Int32)) <<< ((6 : Int32) &&& 31))) ||| (p3 &&& (63 : Int32))), iv 2048, iv (if (contF p2) = (0 : Int32) then (0 : Int32) else (if (contF p3) = (0 : Int32) then (0 : Int32) else (1 : Int32))), .unset] []))
                      refine Goes.on (fun t k => XS.iconst XJ18.here hx rfl (hb hby d1_238) k) ?_
                      show Goes p e below QQ (TJ18.setTop (mkF m 239 #[iv p1, iv p2, iv p3, iv p4, iv p5, iv 3, iv ((((p1 &&& (15 : Int32)) <<< ((12 : Int32) &&& 31)) ||| ((p2 &&& (63 : Int32)) <<< ((6 : Int32) &&& 31))) ||| (p3 &&& (63 : Int32))), iv 2048, iv (if (contF p2) = (0 : Int32) then (0 : Int32) else (if (contF p3) = (0 : Int32) then (0 : Int32) else (1 : Int32))), .unset] [(.int 0)]))
                      rw [(((if_neg hb21).trans ((if_neg hb22).trans ((if_neg hb23).trans ((if_neg hb24).trans ((if_neg hb25).trans rfl))))) : (if (if (contF p2) = (0 : Int32) then (0 : Int32) else (if (contF p3) = (0 : Int32) then (0 : Int32) else (1 : Int32))) = (0 : Int32) then (0 : Int32) else (if ((((p1 &&& (15 : Int32)) <<< ((12 : Int32) &&& 31)) ||| ((p2 &&& (63 : Int32)) <<< ((6 : Int32) &&& 31))) ||| (p3 &&& (63 : Int32))) < (2048 : Int32) then (0 : Int32) else (if (1114111 : Int32) < ((((p1 &&& (15 : Int32)) <<< ((12 : Int32) &&& 31)) ||| ((p2 &&& (63 : Int32)) <<< ((6 : Int32) &&& 31))) ||| (p3 &&& (63 : Int32))) then (0 : Int32) else (if ((((p1 &&& (15 : Int32)) <<< ((12 : Int32) &&& 31)) ||| ((p2 &&& (63 : Int32)) <<< ((6 : Int32) &&& 31))) ||| (p3 &&& (63 : Int32))) < (55296 : Int32) then (1 : Int32) else (if (57343 : Int32) < ((((p1 &&& (15 : Int32)) <<< ((12 : Int32) &&& 31)) ||| ((p2 &&& (63 : Int32)) <<< ((6 : Int32) &&& 31))) ||| (p3 &&& (63 : Int32))) then (1 : Int32) else (0 : Int32)))))) = (0 : Int32))] at J19
                      exact J19 _ _ XJ18 eJ18 NJ18
          show Goes p e below QQ (T17.setTop (mkF m 165 #[iv p1, iv p2, iv p3, iv p4, iv p5, iv 3, iv ((((p1 &&& (15 : Int32)) <<< ((12 : Int32) &&& 31)) ||| ((p2 &&& (63 : Int32)) <<< ((6 : Int32) &&& 31))) ||| (p3 &&& (63 : Int32))), iv 2048, .unset, .unset] [(.int (contF p2))]))
          by_cases hb26 : (contF p2) = (0 : Int32)
          · refine Goes.on (fun t k => XS.ifYes X17.here hx rfl (pc0 := 165) (pc' := 198) rfl (hb hby d1_165) rfl ((if0 _ _).trans (teq hb26).1) (by decide) (by decide) k) ?_
            show Goes p e below QQ (T17.setTop (mkF m 198 #[iv p1, iv p2, iv p3, iv p4, iv p5, iv 3, iv ((((p1 &&& (15 : Int32)) <<< ((12 : Int32) &&& 31)) ||| ((p2 &&& (63 : Int32)) <<< ((6 : Int32) &&& 31))) ||| (p3 &&& (63 : Int32))), iv 2048, .unset, .unset] []))
            refine Goes.on (fun t k => XS.iconst X17.here hx rfl (hb hby d1_198) k) ?_
            show Goes p e below QQ (T17.setTop (mkF m 199 #[iv p1, iv p2, iv p3, iv p4, iv p5, iv 3, iv ((((p1 &&& (15 : Int32)) <<< ((12 : Int32) &&& 31)) ||| ((p2 &&& (63 : Int32)) <<< ((6 : Int32) &&& 31))) ||| (p3 &&& (63 : Int32))), iv 2048, .unset, .unset] [(.int 0)]))
            rw [(((if_pos hb26).trans rfl) : (if (contF p2) = (0 : Int32) then (0 : Int32) else (if (contF p3) = (0 : Int32) then (0 : Int32) else (1 : Int32))) = (0 : Int32))] at J18
            exact J18 _ _ X17 e17 N17
          · refine Goes.on (fun t k => XS.ifNo X17.here hx rfl (hb hby d1_165) rfl ((if0 _ _).trans (feq hb26).1) k) ?_
            show Goes p e below QQ (T17.setTop (mkF m 168 #[iv p1, iv p2, iv p3, iv p4, iv p5, iv 3, iv ((((p1 &&& (15 : Int32)) <<< ((12 : Int32) &&& 31)) ||| ((p2 &&& (63 : Int32)) <<< ((6 : Int32) &&& 31))) ||| (p3 &&& (63 : Int32))), iv 2048, .unset, .unset] []))
            refine Goes.on (fun t k => XS.iload X17.here hx rfl (hb hby d1_168) rfl k) ?_
            show Goes p e below QQ (T17.setTop (mkF m 170 #[iv p1, iv p2, iv p3, iv p4, iv p5, iv 3, iv ((((p1 &&& (15 : Int32)) <<< ((12 : Int32) &&& 31)) ||| ((p2 &&& (63 : Int32)) <<< ((6 : Int32) &&& 31))) ||| (p3 &&& (63 : Int32))), iv 2048, .unset, .unset] [(.int 3)]))
            refine Goes.on (fun t k => XS.iconst X17.here hx rfl (hb hby d1_170) k) ?_
            show Goes p e below QQ (T17.setTop (mkF m 171 #[iv p1, iv p2, iv p3, iv p4, iv p5, iv 3, iv ((((p1 &&& (15 : Int32)) <<< ((12 : Int32) &&& 31)) ||| ((p2 &&& (63 : Int32)) <<< ((6 : Int32) &&& 31))) ||| (p3 &&& (63 : Int32))), iv 2048, .unset, .unset] [(.int 3), (.int 3)]))
            refine Goes.on (fun t k => XS.icmpNo X17.here hx rfl (hb hby d1_171) rfl (flt (by decide)).1 k) ?_
            show Goes p e below QQ (T17.setTop (mkF m 174 #[iv p1, iv p2, iv p3, iv p4, iv p5, iv 3, iv ((((p1 &&& (15 : Int32)) <<< ((12 : Int32) &&& 31)) ||| ((p2 &&& (63 : Int32)) <<< ((6 : Int32) &&& 31))) ||| (p3 &&& (63 : Int32))), iv 2048, .unset, .unset] []))
            refine Goes.on (fun t k => XS.iloadN X17.here hx rfl (hb hby d1_174) rfl k) ?_
            show Goes p e below QQ (T17.setTop (mkF m 175 #[iv p1, iv p2, iv p3, iv p4, iv p5, iv 3, iv ((((p1 &&& (15 : Int32)) <<< ((12 : Int32) &&& 31)) ||| ((p2 &&& (63 : Int32)) <<< ((6 : Int32) &&& 31))) ||| (p3 &&& (63 : Int32))), iv 2048, .unset, .unset] [(.int p3)]))
            obtain ⟨_, _, ⟨T27, L27, k27, n27⟩, -, X27, ⟨Lc27, hQ27, l27, y27, z27⟩, st27⟩ := Jvm.LawKit.callS X17 hx (y := (⟨"com/example/sober_links/soberlinks/io/Utf8SequenceLengthPinLaw", "cont", "(I)Z"⟩ : MethodName)) hown (mvT hZ (hw _ (List.mem_of_getElem? (i := 10) rfl))) (mvT hZ (hw _ (List.mem_of_getElem? (i := 11) rfl))) (mvT hZ (hw _ (List.mem_of_getElem? (i := 4) rfl))) (mvT hZ (hw _ (List.mem_of_getElem? (i := 12) rfl))) (by decide) (backOf (W := 0) (rm1 l Z a0 hw [] p3 h0 n0 (Nat.le_trans Z0 K0.1) ) hZ (hw _ (List.mem_of_getElem? (i := 12) rfl)) (hw _ (List.mem_of_getElem? (i := 4) rfl)) (by decide) (by decide)) (g := (mkF m 175 #[iv p1, iv p2, iv p3, iv p4, iv p5, iv 3, iv ((((p1 &&& (15 : Int32)) <<< ((12 : Int32) &&& 31)) ||| ((p2 &&& (63 : Int32)) <<< ((6 : Int32) &&& 31))) ||| (p3 &&& (63 : Int32))), iv 2048, .unset, .unset] [(.int p3)])) rfl (by rw [hml]; rfl) (argsL := [(.int p3)]) (rest := []) (lenOf pd_0 rfl) rfl (by show 2 * 0 + _ ≤ _; exact Nat.le_of_eq rfl) (hb hby d1_175) (fun _ _ => ⟨rfl, e17, (by decide : 0 + 0 ≤ _), (by decide : 0 + 0 ≤ _)⟩)
            dsimp only [Pt.U, Pt.locs, Pt.cells, Pt.slots] at X27 l27 y27 z27 st27 hQ27
            subst l27 y27 z27
            obtain ⟨rfl, M27, e27⟩ := hQ27
            have N27 := Fr.app N17 M27
            refine Goes.on (fun t k => st27 _ k) ?_
            show Goes p e below QQ (T27.setTop (mkF m 178 #[iv p1, iv p2, iv p3, iv p4, iv p5, iv 3, iv ((((p1 &&& (15 : Int32)) <<< ((12 : Int32) &&& 31)) ||| ((p2 &&& (63 : Int32)) <<< ((6 : Int32) &&& 31))) ||| (p3 &&& (63 : Int32))), iv 2048, .unset, .unset] [(.int (contF p3))]))
            by_cases hb28 : (contF p3) = (0 : Int32)
            · refine Goes.on (fun t k => XS.ifYes X27.here hx rfl (pc0 := 178) (pc' := 198) rfl (hb hby d1_178) rfl ((if0 _ _).trans (teq hb28).1) (by decide) (by decide) k) ?_
              show Goes p e below QQ (T27.setTop (mkF m 198 #[iv p1, iv p2, iv p3, iv p4, iv p5, iv 3, iv ((((p1 &&& (15 : Int32)) <<< ((12 : Int32) &&& 31)) ||| ((p2 &&& (63 : Int32)) <<< ((6 : Int32) &&& 31))) ||| (p3 &&& (63 : Int32))), iv 2048, .unset, .unset] []))
              refine Goes.on (fun t k => XS.iconst X27.here hx rfl (hb hby d1_198) k) ?_
              show Goes p e below QQ (T27.setTop (mkF m 199 #[iv p1, iv p2, iv p3, iv p4, iv p5, iv 3, iv ((((p1 &&& (15 : Int32)) <<< ((12 : Int32) &&& 31)) ||| ((p2 &&& (63 : Int32)) <<< ((6 : Int32) &&& 31))) ||| (p3 &&& (63 : Int32))), iv 2048, .unset, .unset] [(.int 0)]))
              rw [(((if_neg hb26).trans ((if_pos hb28).trans rfl)) : (if (contF p2) = (0 : Int32) then (0 : Int32) else (if (contF p3) = (0 : Int32) then (0 : Int32) else (1 : Int32))) = (0 : Int32))] at J18
              exact J18 _ _ X27 e27 N27
            · refine Goes.on (fun t k => XS.ifNo X27.here hx rfl (hb hby d1_178) rfl ((if0 _ _).trans (feq hb28).1) k) ?_
              show Goes p e below QQ (T27.setTop (mkF m 181 #[iv p1, iv p2, iv p3, iv p4, iv p5, iv 3, iv ((((p1 &&& (15 : Int32)) <<< ((12 : Int32) &&& 31)) ||| ((p2 &&& (63 : Int32)) <<< ((6 : Int32) &&& 31))) ||| (p3 &&& (63 : Int32))), iv 2048, .unset, .unset] []))
              refine Goes.on (fun t k => XS.iload X27.here hx rfl (hb hby d1_181) rfl k) ?_
              show Goes p e below QQ (T27.setTop (mkF m 183 #[iv p1, iv p2, iv p3, iv p4, iv p5, iv 3, iv ((((p1 &&& (15 : Int32)) <<< ((12 : Int32) &&& 31)) ||| ((p2 &&& (63 : Int32)) <<< ((6 : Int32) &&& 31))) ||| (p3 &&& (63 : Int32))), iv 2048, .unset, .unset] [(.int 3)]))
              refine Goes.on (fun t k => XS.iconst X27.here hx rfl (hb hby d1_183) k) ?_
              show Goes p e below QQ (T27.setTop (mkF m 184 #[iv p1, iv p2, iv p3, iv p4, iv p5, iv 3, iv ((((p1 &&& (15 : Int32)) <<< ((12 : Int32) &&& 31)) ||| ((p2 &&& (63 : Int32)) <<< ((6 : Int32) &&& 31))) ||| (p3 &&& (63 : Int32))), iv 2048, .unset, .unset] [(.int 4), (.int 3)]))
              refine Goes.on (fun t k => XS.icmpYes X27.here hx rfl (pc0 := 184) (pc' := 194) rfl (hb hby d1_184) rfl (tlt (by decide)).1 (by decide) (by decide) k) ?_
              show Goes p e below QQ (T27.setTop (mkF m 194 #[iv p1, iv p2, iv p3, iv p4, iv p5, iv 3, iv ((((p1 &&& (15 : Int32)) <<< ((12 : Int32) &&& 31)) ||| ((p2 &&& (63 : Int32)) <<< ((6 : Int32) &&& 31))) ||| (p3 &&& (63 : Int32))), iv 2048, .unset, .unset] []))
              refine Goes.on (fun t k => XS.iconst X27.here hx rfl (hb hby d1_194) k) ?_
              show Goes p e below QQ (T27.setTop (mkF m 195 #[iv p1, iv p2, iv p3, iv p4, iv p5, iv 3, iv ((((p1 &&& (15 : Int32)) <<< ((12 : Int32) &&& 31)) ||| ((p2 &&& (63 : Int32)) <<< ((6 : Int32) &&& 31))) ||| (p3 &&& (63 : Int32))), iv 2048, .unset, .unset] [(.int 1)]))
              refine Goes.on (fun t k => XS.goto X27.here hx rfl (pc0 := 195) (pc' := 199) rfl (hb hby d1_195) (by decide) (by decide) k) ?_
              show Goes p e below QQ (T27.setTop (mkF m 199 #[iv p1, iv p2, iv p3, iv p4, iv p5, iv 3, iv ((((p1 &&& (15 : Int32)) <<< ((12 : Int32) &&& 31)) ||| ((p2 &&& (63 : Int32)) <<< ((6 : Int32) &&& 31))) ||| (p3 &&& (63 : Int32))), iv 2048, .unset, .unset] [(.int 1)]))
              rw [(((if_neg hb26).trans ((if_neg hb28).trans rfl)) : (if (contF p2) = (0 : Int32) then (0 : Int32) else (if (contF p3) = (0 : Int32) then (0 : Int32) else (1 : Int32))) = (1 : Int32))] at J18
              exact J18 _ _ X27 e27 N27
      · refine Goes.on (fun t k => XS.icmpYes X0.here hx rfl (pc0 := 63) (pc' := 99) rfl (hb hby d1_63) rfl (feq hb15).2 (by decide) (by decide) k) ?_
        show Goes p e below QQ (s₁.setTop (mkF m 99 #[iv p1, iv p2, iv p3, iv p4, iv p5, .unset, .unset, .unset, .unset, .unset] []))
        refine Goes.on (fun t k => XS.iloadN X0.here hx rfl (hb hby d1_99) rfl k) ?_
        show Goes p e below QQ (s₁.setTop (mkF m 100 #[iv p1, iv p2, iv p3, iv p4, iv p5, .unset, .unset, .unset, .unset, .unset] [(.int p1)]))
        refine Goes.on (fun t k => XS.sipush X0.here hx rfl (hb hby d1_100) k) ?_
        show Goes p e below QQ (s₁.setTop (mkF m 103 #[iv p1, iv p2, iv p3, iv p4, iv p5, .unset, .unset, .unset, .unset, .unset] [(.int 248), (.int p1)]))
        refine Goes.on (fun t k => XS.iand X0.here hx rfl (hb hby d1_103) rfl k) ?_
        show Goes p e below QQ (s₁.setTop (mkF m 104 #[iv p1, iv p2, iv p3, iv p4, iv p5, .unset, .unset, .unset, .unset, .unset] [(.int (p1 &&& (248 : Int32)))]))
        refine Goes.on (fun t k => XS.sipush X0.here hx rfl (hb hby d1_104) k) ?_
        show Goes p e below QQ (s₁.setTop (mkF m 107 #[iv p1, iv p2, iv p3, iv p4, iv p5, .unset, .unset, .unset, .unset, .unset] [(.int 240), (.int (p1 &&& (248 : Int32)))]))
        by_cases hb29 : (p1 &&& (248 : Int32)) = (240 : Int32)
        · refine Goes.on (fun t k => XS.icmpNo X0.here hx rfl (hb hby d1_107) rfl (teq hb29).2 k) ?_
          show Goes p e below QQ (s₁.setTop (mkF m 110 #[iv p1, iv p2, iv p3, iv p4, iv p5, .unset, .unset, .unset, .unset, .unset] []))
          refine Goes.on (fun t k => XS.iconst X0.here hx rfl (hb hby d1_110) k) ?_
          show Goes p e below QQ (s₁.setTop (mkF m 111 #[iv p1, iv p2, iv p3, iv p4, iv p5, .unset, .unset, .unset, .unset, .unset] [(.int 4)]))
          refine Goes.on (fun t k => XS.istore X0.here hx rfl (hb hby d1_111) rfl (l' := #[iv p1, iv p2, iv p3, iv p4, iv p5, iv 4, .unset, .unset, .unset, .unset]) rfl k) ?_
          show Goes p e below QQ (s₁.setTop (mkF m 113 #[iv p1, iv p2, iv p3, iv p4, iv p5, iv 4, .unset, .unset, .unset, .unset] []))
          refine Goes.on (fun t k => XS.iloadN X0.here hx rfl (hb hby d1_113) rfl k) ?_
          show Goes p e below QQ (s₁.setTop (mkF m 114 #[iv p1, iv p2, iv p3, iv p4, iv p5, iv 4, .unset, .unset, .unset, .unset] [(.int p1)]))
          refine Goes.on (fun t k => XS.bipush X0.here hx rfl (hb hby d1_114) k) ?_
          show Goes p e below QQ (s₁.setTop (mkF m 116 #[iv p1, iv p2, iv p3, iv p4, iv p5, iv 4, .unset, .unset, .unset, .unset] [(.int 7), (.int p1)]))
          refine Goes.on (fun t k => XS.iand X0.here hx rfl (hb hby d1_116) rfl k) ?_
          show Goes p e below QQ (s₁.setTop (mkF m 117 #[iv p1, iv p2, iv p3, iv p4, iv p5, iv 4, .unset, .unset, .unset, .unset] [(.int (p1 &&& (7 : Int32)))]))
          refine Goes.on (fun t k => XS.bipush X0.here hx rfl (hb hby d1_117) k) ?_
          show Goes p e below QQ (s₁.setTop (mkF m 119 #[iv p1, iv p2, iv p3, iv p4, iv p5, iv 4, .unset, .unset, .unset, .unset] [(.int 18), (.int (p1 &&& (7 : Int32)))]))
          refine Goes.on (fun t k => XS.ishl X0.here hx rfl (hb hby d1_119) rfl k) ?_
          show Goes p e below QQ (s₁.setTop (mkF m 120 #[iv p1, iv p2, iv p3, iv p4, iv p5, iv 4, .unset, .unset, .unset, .unset] [(.int ((p1 &&& (7 : Int32)) <<< ((18 : Int32) &&& 31)))]))
          refine Goes.on (fun t k => XS.iloadN X0.here hx rfl (hb hby d1_120) rfl k) ?_
          show Goes p e below QQ (s₁.setTop (mkF m 121 #[iv p1, iv p2, iv p3, iv p4, iv p5, iv 4, .unset, .unset, .unset, .unset] [(.int p2), (.int ((p1 &&& (7 : Int32)) <<< ((18 : Int32) &&& 31)))]))
          refine Goes.on (fun t k => XS.bipush X0.here hx rfl (hb hby d1_121) k) ?_
          show Goes p e below QQ (s₁.setTop (mkF m 123 #[iv p1, iv p2, iv p3, iv p4, iv p5, iv 4, .unset, .unset, .unset, .unset] [(.int 63), (.int p2), (.int ((p1 &&& (7 : Int32)) <<< ((18 : Int32) &&& 31)))]))
          refine Goes.on (fun t k => XS.iand X0.here hx rfl (hb hby d1_123) rfl k) ?_
          show Goes p e below QQ (s₁.setTop (mkF m 124 #[iv p1, iv p2, iv p3, iv p4, iv p5, iv 4, .unset, .unset, .unset, .unset] [(.int (p2 &&& (63 : Int32))), (.int ((p1 &&& (7 : Int32)) <<< ((18 : Int32) &&& 31)))]))
          refine Goes.on (fun t k => XS.bipush X0.here hx rfl (hb hby d1_124) k) ?_
          show Goes p e below QQ (s₁.setTop (mkF m 126 #[iv p1, iv p2, iv p3, iv p4, iv p5, iv 4, .unset, .unset, .unset, .unset] [(.int 12), (.int (p2 &&& (63 : Int32))), (.int ((p1 &&& (7 : Int32)) <<< ((18 : Int32) &&& 31)))]))
          refine Goes.on (fun t k => XS.ishl X0.here hx rfl (hb hby d1_126) rfl k) ?_
          show Goes p e below QQ (s₁.setTop (mkF m 127 #[iv p1, iv p2, iv p3, iv p4, iv p5, iv 4, .unset, .unset, .unset, .unset] [(.int ((p2 &&& (63 : Int32)) <<< ((12 : Int32) &&& 31))), (.int ((p1 &&& (7 : Int32)) <<< ((18 : Int32) &&& 31)))]))
          refine Goes.on (fun t k => XS.ior X0.here hx rfl (hb hby d1_127) rfl k) ?_
          show Goes p e below QQ (s₁.setTop (mkF m 128 #[iv p1, iv p2, iv p3, iv p4, iv p5, iv 4, .unset, .unset, .unset, .unset] [(.int (((p1 &&& (7 : Int32)) <<< ((18 : Int32) &&& 31)) ||| ((p2 &&& (63 : Int32)) <<< ((12 : Int32) &&& 31))))]))
          refine Goes.on (fun t k => XS.iloadN X0.here hx rfl (hb hby d1_128) rfl k) ?_
          show Goes p e below QQ (s₁.setTop (mkF m 129 #[iv p1, iv p2, iv p3, iv p4, iv p5, iv 4, .unset, .unset, .unset, .unset] [(.int p3), (.int (((p1 &&& (7 : Int32)) <<< ((18 : Int32) &&& 31)) ||| ((p2 &&& (63 : Int32)) <<< ((12 : Int32) &&& 31))))]))
          refine Goes.on (fun t k => XS.bipush X0.here hx rfl (hb hby d1_129) k) ?_
          show Goes p e below QQ (s₁.setTop (mkF m 131 #[iv p1, iv p2, iv p3, iv p4, iv p5, iv 4, .unset, .unset, .unset, .unset] [(.int 63), (.int p3), (.int (((p1 &&& (7 : Int32)) <<< ((18 : Int32) &&& 31)) ||| ((p2 &&& (63 : Int32)) <<< ((12 : Int32) &&& 31))))]))
          refine Goes.on (fun t k => XS.iand X0.here hx rfl (hb hby d1_131) rfl k) ?_
          show Goes p e below QQ (s₁.setTop (mkF m 132 #[iv p1, iv p2, iv p3, iv p4, iv p5, iv 4, .unset, .unset, .unset, .unset] [(.int (p3 &&& (63 : Int32))), (.int (((p1 &&& (7 : Int32)) <<< ((18 : Int32) &&& 31)) ||| ((p2 &&& (63 : Int32)) <<< ((12 : Int32) &&& 31))))]))
          refine Goes.on (fun t k => XS.bipush X0.here hx rfl (hb hby d1_132) k) ?_
          show Goes p e below QQ (s₁.setTop (mkF m 134 #[iv p1, iv p2, iv p3, iv p4, iv p5, iv 4, .unset, .unset, .unset, .unset] [(.int 6), (.int (p3 &&& (63 : Int32))), (.int (((p1 &&& (7 : Int32)) <<< ((18 : Int32) &&& 31)) ||| ((p2 &&& (63 : Int32)) <<< ((12 : Int32) &&& 31))))]))
          refine Goes.on (fun t k => XS.ishl X0.here hx rfl (hb hby d1_134) rfl k) ?_
          show Goes p e below QQ (s₁.setTop (mkF m 135 #[iv p1, iv p2, iv p3, iv p4, iv p5, iv 4, .unset, .unset, .unset, .unset] [(.int ((p3 &&& (63 : Int32)) <<< ((6 : Int32) &&& 31))), (.int (((p1 &&& (7 : Int32)) <<< ((18 : Int32) &&& 31)) ||| ((p2 &&& (63 : Int32)) <<< ((12 : Int32) &&& 31))))]))
          refine Goes.on (fun t k => XS.ior X0.here hx rfl (hb hby d1_135) rfl k) ?_
          show Goes p e below QQ (s₁.setTop (mkF m 136 #[iv p1, iv p2, iv p3, iv p4, iv p5, iv 4, .unset, .unset, .unset, .unset] [(.int ((((p1 &&& (7 : Int32)) <<< ((18 : Int32) &&& 31)) ||| ((p2 &&& (63 : Int32)) <<< ((12 : Int32) &&& 31))) ||| ((p3 &&& (63 : Int32)) <<< ((6 : Int32) &&& 31))))]))
          refine Goes.on (fun t k => XS.iloadN X0.here hx rfl (hb hby d1_136) rfl k) ?_
          show Goes p e below QQ (s₁.setTop (mkF m 137 #[iv p1, iv p2, iv p3, iv p4, iv p5, iv 4, .unset, .unset, .unset, .unset] [(.int p4), (.int ((((p1 &&& (7 : Int32)) <<< ((18 : Int32) &&& 31)) ||| ((p2 &&& (63 : Int32)) <<< ((12 : Int32) &&& 31))) ||| ((p3 &&& (63 : Int32)) <<< ((6 : Int32) &&& 31))))]))
          refine Goes.on (fun t k => XS.bipush X0.here hx rfl (hb hby d1_137) k) ?_
          show Goes p e below QQ (s₁.setTop (mkF m 139 #[iv p1, iv p2, iv p3, iv p4, iv p5, iv 4, .unset, .unset, .unset, .unset] [(.int 63), (.int p4), (.int ((((p1 &&& (7 : Int32)) <<< ((18 : Int32) &&& 31)) ||| ((p2 &&& (63 : Int32)) <<< ((12 : Int32) &&& 31))) ||| ((p3 &&& (63 : Int32)) <<< ((6 : Int32) &&& 31))))]))
          refine Goes.on (fun t k => XS.iand X0.here hx rfl (hb hby d1_139) rfl k) ?_
          show Goes p e below QQ (s₁.setTop (mkF m 140 #[iv p1, iv p2, iv p3, iv p4, iv p5, iv 4, .unset, .unset, .unset, .unset] [(.int (p4 &&& (63 : Int32))), (.int ((((p1 &&& (7 : Int32)) <<< ((18 : Int32) &&& 31)) ||| ((p2 &&& (63 : Int32)) <<< ((12 : Int32) &&& 31))) ||| ((p3 &&& (63 : Int32)) <<< ((6 : Int32) &&& 31))))]))
          refine Goes.on (fun t k => XS.ior X0.here hx rfl (hb hby d1_140) rfl k) ?_
          show Goes p e below QQ (s₁.setTop (mkF m 141 #[iv p1, iv p2, iv p3, iv p4, iv p5, iv 4, .unset, .unset, .unset, .unset] [(.int (((((p1 &&& (7 : Int32)) <<< ((18 : Int32) &&& 31)) ||| ((p2 &&& (63 : Int32)) <<< ((12 : Int32) &&& 31))) ||| ((p3 &&& (63 : Int32)) <<< ((6 : Int32) &&& 31))) ||| (p4 &&& (63 : Int32))))]))
          refine Goes.on (fun t k => XS.istore X0.here hx rfl (hb hby d1_141) rfl (l' := #[iv p1, iv p2, iv p3, iv p4, iv p5, iv 4, iv (((((p1 &&& (7 : Int32)) <<< ((18 : Int32) &&& 31)) ||| ((p2 &&& (63 : Int32)) <<< ((12 : Int32) &&& 31))) ||| ((p3 &&& (63 : Int32)) <<< ((6 : Int32) &&& 31))) ||| (p4 &&& (63 : Int32))), .unset, .unset, .unset]) rfl k) ?_
          show Goes p e below QQ (s₁.setTop (mkF m 143 #[iv p1, iv p2, iv p3, iv p4, iv p5, iv 4, iv (((((p1 &&& (7 : Int32)) <<< ((18 : Int32) &&& 31)) ||| ((p2 &&& (63 : Int32)) <<< ((12 : Int32) &&& 31))) ||| ((p3 &&& (63 : Int32)) <<< ((6 : Int32) &&& 31))) ||| (p4 &&& (63 : Int32))), .unset, .unset, .unset] []))
          refine Goes.on (fun t k => X0.ldcInt hx hown (mvT hZ (hw _ (List.mem_of_getElem? (i := 13) rfl))) (g := (mkF m 143 #[iv p1, iv p2, iv p3, iv p4, iv p5, iv 4, iv (((((p1 &&& (7 : Int32)) <<< ((18 : Int32) &&& 31)) ||| ((p2 &&& (63 : Int32)) <<< ((12 : Int32) &&& 31))) ||| ((p3 &&& (63 : Int32)) <<< ((6 : Int32) &&& 31))) ||| (p4 &&& (63 : Int32))), .unset, .unset, .unset] [])) rfl (hb hby d1_143) t k) ?_
          show Goes p e below QQ (s₁.setTop (mkF m 145 #[iv p1, iv p2, iv p3, iv p4, iv p5, iv 4, iv (((((p1 &&& (7 : Int32)) <<< ((18 : Int32) &&& 31)) ||| ((p2 &&& (63 : Int32)) <<< ((12 : Int32) &&& 31))) ||| ((p3 &&& (63 : Int32)) <<< ((6 : Int32) &&& 31))) ||| (p4 &&& (63 : Int32))), .unset, .unset, .unset] [(.int 65536)]))
          refine Goes.on (fun t k => XS.istore X0.here hx rfl (hb hby d1_145) rfl (l' := #[iv p1, iv p2, iv p3, iv p4, iv p5, iv 4, iv (((((p1 &&& (7 : Int32)) <<< ((18 : Int32) &&& 31)) ||| ((p2 &&& (63 : Int32)) <<< ((12 : Int32) &&& 31))) ||| ((p3 &&& (63 : Int32)) <<< ((6 : Int32) &&& 31))) ||| (p4 &&& (63 : Int32))), iv 65536, .unset, .unset]) rfl k) ?_
          show Goes p e below QQ (s₁.setTop (mkF m 147 #[iv p1, iv p2, iv p3, iv p4, iv p5, iv 4, iv (((((p1 &&& (7 : Int32)) <<< ((18 : Int32) &&& 31)) ||| ((p2 &&& (63 : Int32)) <<< ((12 : Int32) &&& 31))) ||| ((p3 &&& (63 : Int32)) <<< ((6 : Int32) &&& 31))) ||| (p4 &&& (63 : Int32))), iv 65536, .unset, .unset] []))
          refine Goes.on (fun t k => XS.goto X0.here hx rfl (pc0 := 147) (pc' := 152) rfl (hb hby d1_147) (by decide) (by decide) k) ?_
          show Goes p e below QQ (s₁.setTop (mkF m 152 #[iv p1, iv p2, iv p3, iv p4, iv p5, iv 4, iv (((((p1 &&& (7 : Int32)) <<< ((18 : Int32) &&& 31)) ||| ((p2 &&& (63 : Int32)) <<< ((12 : Int32) &&& 31))) ||| ((p3 &&& (63 : Int32)) <<< ((6 : Int32) &&& 31))) ||| (p4 &&& (63 : Int32))), iv 65536, .unset, .unset] []))
          refine Goes.on (fun t k => XS.iload X0.here hx rfl (hb hby d1_152) rfl k) ?_
          show Goes p e below QQ (s₁.setTop (mkF m 154 #[iv p1, iv p2, iv p3, iv p4, iv p5, iv 4, iv (((((p1 &&& (7 : Int32)) <<< ((18 : Int32) &&& 31)) ||| ((p2 &&& (63 : Int32)) <<< ((12 : Int32) &&& 31))) ||| ((p3 &&& (63 : Int32)) <<< ((6 : Int32) &&& 31))) ||| (p4 &&& (63 : Int32))), iv 65536, .unset, .unset] [(.int p5)]))
          refine Goes.on (fun t k => XS.iload X0.here hx rfl (hb hby d1_154) rfl k) ?_
          show Goes p e below QQ (s₁.setTop (mkF m 156 #[iv p1, iv p2, iv p3, iv p4, iv p5, iv 4, iv (((((p1 &&& (7 : Int32)) <<< ((18 : Int32) &&& 31)) ||| ((p2 &&& (63 : Int32)) <<< ((12 : Int32) &&& 31))) ||| ((p3 &&& (63 : Int32)) <<< ((6 : Int32) &&& 31))) ||| (p4 &&& (63 : Int32))), iv 65536, .unset, .unset] [(.int 4), (.int p5)]))
          by_cases hb30 : p5 < (4 : Int32)
          · refine Goes.on (fun t k => XS.icmpNo X0.here hx rfl (hb hby d1_156) rfl (tlt hb30).2.1 k) ?_
            show Goes p e below QQ (s₁.setTop (mkF m 159 #[iv p1, iv p2, iv p3, iv p4, iv p5, iv 4, iv (((((p1 &&& (7 : Int32)) <<< ((18 : Int32) &&& 31)) ||| ((p2 &&& (63 : Int32)) <<< ((12 : Int32) &&& 31))) ||| ((p3 &&& (63 : Int32)) <<< ((6 : Int32) &&& 31))) ||| (p4 &&& (63 : Int32))), iv 65536, .unset, .unset] []))
            refine Goes.on (fun t k => XS.iconst X0.here hx rfl (hb hby d1_159) k) ?_
            show Goes p e below QQ (s₁.setTop (mkF m 160 #[iv p1, iv p2, iv p3, iv p4, iv p5, iv 4, iv (((((p1 &&& (7 : Int32)) <<< ((18 : Int32) &&& 31)) ||| ((p2 &&& (63 : Int32)) <<< ((12 : Int32) &&& 31))) ||| ((p3 &&& (63 : Int32)) <<< ((6 : Int32) &&& 31))) ||| (p4 &&& (63 : Int32))), iv 65536, .unset, .unset] [(.int 0)]))
            exact Goes.rI X0 hx hret hlk (hb hby d1_160) hQQ ⟨congrArg (fun z => some (Value.int z)) (((if_neg hb1).trans ((if_neg hb3).trans ((if_neg hb15).trans ((if_pos hb29).trans ((if_pos hb30).trans rfl))))) : (expF p1 p2 p3 p4 p5) = (0 : Int32)).symm, N0, e0⟩ (by decide) (by decide)
          · refine Goes.on (fun t k => XS.icmpYes X0.here hx rfl (pc0 := 156) (pc' := 161) rfl (hb hby d1_156) rfl (flt hb30).2.1 (by decide) (by decide) k) ?_
            show Goes p e below QQ (s₁.setTop (mkF m 161 #[iv p1, iv p2, iv p3, iv p4, iv p5, iv 4, iv (((((p1 &&& (7 : Int32)) <<< ((18 : Int32) &&& 31)) ||| ((p2 &&& (63 : Int32)) <<< ((12 : Int32) &&& 31))) ||| ((p3 &&& (63 : Int32)) <<< ((6 : Int32) &&& 31))) ||| (p4 &&& (63 : Int32))), iv 65536, .unset, .unset] []))
            refine Goes.on (fun t k => XS.iloadN X0.here hx rfl (hb hby d1_161) rfl k) ?_
            show Goes p e below QQ (s₁.setTop (mkF m 162 #[iv p1, iv p2, iv p3, iv p4, iv p5, iv 4, iv (((((p1 &&& (7 : Int32)) <<< ((18 : Int32) &&& 31)) ||| ((p2 &&& (63 : Int32)) <<< ((12 : Int32) &&& 31))) ||| ((p3 &&& (63 : Int32)) <<< ((6 : Int32) &&& 31))) ||| (p4 &&& (63 : Int32))), iv 65536, .unset, .unset] [(.int p2)]))
            obtain ⟨_, _, ⟨T31, L31, k31, n31⟩, -, X31, ⟨Lc31, hQ31, l31, y31, z31⟩, st31⟩ := Jvm.LawKit.callS X0 hx (y := (⟨"com/example/sober_links/soberlinks/io/Utf8SequenceLengthPinLaw", "cont", "(I)Z"⟩ : MethodName)) hown (mvT hZ (hw _ (List.mem_of_getElem? (i := 10) rfl))) (mvT hZ (hw _ (List.mem_of_getElem? (i := 11) rfl))) (mvT hZ (hw _ (List.mem_of_getElem? (i := 4) rfl))) (mvT hZ (hw _ (List.mem_of_getElem? (i := 12) rfl))) (by decide) (backOf (W := 0) (rm1 l Z a0 hw [] p2 h0 n0 (Nat.le_trans Z0 K0.1) ) hZ (hw _ (List.mem_of_getElem? (i := 12) rfl)) (hw _ (List.mem_of_getElem? (i := 4) rfl)) (by decide) (by decide)) (g := (mkF m 162 #[iv p1, iv p2, iv p3, iv p4, iv p5, iv 4, iv (((((p1 &&& (7 : Int32)) <<< ((18 : Int32) &&& 31)) ||| ((p2 &&& (63 : Int32)) <<< ((12 : Int32) &&& 31))) ||| ((p3 &&& (63 : Int32)) <<< ((6 : Int32) &&& 31))) ||| (p4 &&& (63 : Int32))), iv 65536, .unset, .unset] [(.int p2)])) rfl (by rw [hml]; rfl) (argsL := [(.int p2)]) (rest := []) (lenOf pd_0 rfl) rfl (by show 2 * 0 + _ ≤ _; exact Nat.le_of_eq rfl) (hb hby d1_162) (fun _ _ => ⟨rfl, e0, (by decide : 0 + 0 ≤ _), (by decide : 0 + 0 ≤ _)⟩)
            dsimp only [Pt.U, Pt.locs, Pt.cells, Pt.slots] at X31 l31 y31 z31 st31 hQ31
            subst l31 y31 z31
            obtain ⟨rfl, M31, e31⟩ := hQ31
            have N31 := Fr.app N0 M31
            refine Goes.on (fun t k => st31 _ k) ?_
            show Goes p e below QQ (T31.setTop (mkF m 165 #[iv p1, iv p2, iv p3, iv p4, iv p5, iv 4, iv (((((p1 &&& (7 : Int32)) <<< ((18 : Int32) &&& 31)) ||| ((p2 &&& (63 : Int32)) <<< ((12 : Int32) &&& 31))) ||| ((p3 &&& (63 : Int32)) <<< ((6 : Int32) &&& 31))) ||| (p4 &&& (63 : Int32))), iv 65536, .unset, .unset] [(.int (contF p2))]))
            have J32 : ∀ (TJ32 : State) (lJ32 : List Loc), Stand p l e ({ frames := 1, cells := 0, slots := 0, locals := 12 } : Room) s m #[(.int p1), (.int p2), (.int p3), (.int p4), (.int p5)] below meth c TJ32 lJ32 0 0 → TJ32.heap = h0 → Fr n0 lJ32 → Goes p e below QQ (TJ32.setTop (mkF m 199 #[iv p1, iv p2, iv p3, iv p4, iv p5, iv 4, iv (((((p1 &&& (7 : Int32)) <<< ((18 : Int32) &&& 31)) ||| ((p2 &&& (63 : Int32)) <<< ((12 : Int32) &&& 31))) ||| ((p3 &&& (63 : Int32)) <<< ((6 : Int32) &&& 31))) ||| (p4 &&& (63 : Int32))), iv 65536, .unset, .unset] [(.int (if (contF p2) = (0 : Int32) then (0 : Int32) else (if (contF p3) = (0 : Int32) then (0 : Int32) else (if (contF p4) = (0 : Int32) then (0 : Int32) else (1 : Int32)))))])) := by
              intro TJ32 lJ32 XJ32 eJ32 NJ32
              refine Goes.on (fun t k => XS.istore XJ32.here hx rfl (hb hby d1_199) rfl (l' := #[iv p1, iv p2, iv p3, iv p4, iv p5, iv 4, iv (((((p1 &&& (7 : Int32)) <<< ((18 : Int32) &&& 31)) ||| ((p2 &&& (63 : Int32)) <<< ((12 : Int32) &&& 31))) ||| ((p3 &&& (63 : Int32)) <<< ((6 : Int32) &&& 31))) ||| (p4 &&& (63 : Int32))), iv 65536, iv (if (contF p2) = (0 : Int32) then (0 : Int32) else (if (contF p3) = (0 : Int32) then (0 : Int32) else (if (contF p4) = (0 : Int32) then (0 : Int32) else (1 : Int32)))), .unset]) rfl k) ?_
              show Goes p e below QQ (TJ32.setTop (mkF m 201 #[iv p1, iv p2, iv p3, iv p4, iv p5, iv 4, iv (((((p1 &&& (7 : Int32)) <<< ((18 : Int32) &&& 31)) ||| ((p2 &&& (63 : Int32)) <<< ((12 : Int32) &&& 31))) ||| ((p3 &&& (63 : Int32)) <<< ((6 : Int32) &&& 31))) ||| (p4 &&& (63 : Int32))), iv 65536, iv (if (contF p2) = (0 : Int32) then (0 : Int32) else (if (contF p3) = (0 : Int32) then (0 : Int32) else (if (contF p4) = (0 : Int32) then (0 : Int32) else (1 : Int32)))), .unset] []))
              refine Goes.on (fun t k => XS.iload XJ32.here hx rfl (hb hby d1_201) rfl k) ?_
              show Goes p e below QQ (TJ32.setTop (mkF m 203 #[iv p1, iv p2, iv p3, iv p4, iv p5, iv 4, iv (((((p1 &&& (7 : Int32)) <<< ((18 : Int32) &&& 31)) ||| ((p2 &&& (63 : Int32)) <<< ((12 : Int32) &&& 31))) ||| ((p3 &&& (63 : Int32)) <<< ((6 : Int32) &&& 31))) ||| (p4 &&& (63 : Int32))), iv 65536, iv (if (contF p2) = (0 : Int32) then (0 : Int32) else (if (contF p3) = (0 : Int32) then (0 : Int32) else (if (contF p4) = (0 : Int32) then (0 : Int32) else (1 : Int32)))), .unset] [(.int (if (contF p2) = (0 : Int32) then (0 : Int32) else (if (contF p3) = (0 : Int32) then (0 : Int32) else (if (contF p4) = (0 : Int32) then (0 : Int32) else (1 : Int32)))))]))
              have J33 : ∀ (TJ33 : State) (lJ33 : List Loc), Stand p l e ({ frames := 1, cells := 0, slots := 0, locals := 12 } : Room) s m #[(.int p1), (.int p2), (.int p3), (.int p4), (.int p5)] below meth c TJ33 lJ33 0 0 → TJ33.heap = h0 → Fr n0 lJ33 → Goes p e below QQ (TJ33.setTop (mkF m 239 #[iv p1, iv p2, iv p3, iv p4, iv p5, iv 4, iv (((((p1 &&& (7 : Int32)) <<< ((18 : Int32) &&& 31)) ||| ((p2 &&& (63 : Int32)) <<< ((12 : Int32) &&& 31))) ||| ((p3 &&& (63 : Int32)) <<< ((6 : Int32) &&& 31))) ||| (p4 &&& (63 : Int32))), iv 65536, iv (if (contF p2) = (0 : Int32) then (0 : Int32) else (if (contF p3) = (0 : Int32) then (0 : Int32) else (if (contF p4) = (0 : Int32) then (0 : Int32) else (1 : Int32)))), .unset] [(.int (if (if (contF p2) = (0 : Int32) then (0 : Int32) else (if (contF p3) = (0 : Int32) then (0 : Int32) else (if (contF p4) = (0 : Int32) then (0 : Int32) else (1 : Int32)))) = (0 : Int32) then (0 : Int32) else (if (((((p1 &&& (7 : Int32)) <<< ((18 : Int32) &&& 31)) ||| ((p2 &&& (63 : Int32)) <<< ((12 : Int32) &&& 31))) ||| ((p3 &&& (63 : Int32)) <<< ((6 : Int32) &&& 31))) ||| (p4 &&& (63 : Int32))) < (65536 : Int32) then (0 : Int32) else (if (1114111 : Int32) < (((((p1 &&& (7 : Int32)) <<< ((18 : Int32) &&& 31)) ||| ((p2 &&& (63 : Int32)) <<< ((12 : Int32) &&& 31))) ||| ((p3 &&& (63 : Int32)) <<< ((6 : Int32) &&& 31))) ||| (p4 &&& (63 : Int32))) then (0 : Int32) else (if (((((p1 &&& (7 : Int32)) <<< ((18 : Int32) &&& 31)) ||| ((p2 &&& (63 : Int32)) <<< ((12 : Int32) &&& 31))) ||| ((p3 &&& (63 : Int32)) <<< ((6 : Int32) &&& 31))) ||| (p4 &&& (63 : Int32))) < (55296 : Int32) then (1 : Int32) else (if (57343 : Int32) < (((((p1 &&& (7 : Int32)) <<< ((18 : Int32) &&& 31)) ||| ((p2 &&& (63 : Int32)) <<< ((12 : Int32) &&& 31))) ||| ((p3 &&& (63 : Int32)) <<< ((6 : Int32) &&& 31))) ||| (p4 &&& (63 : Int32))) then (1 : Int32) else (0 : Int32)))))))])) := by
                intro TJ33 lJ33 XJ33 eJ33 NJ33
                refine Goes.on (fun t k => XS.istore XJ33.here hx rfl (hb hby d1_239) rfl (l' := #[iv p1, iv p2, iv p3, iv p4, iv p5, iv 4, iv (((((p1 &&& (7 : Int32)) <<< ((18 : Int32) &&& 31)) ||| ((p2 &&& (63 : Int32)) <<< ((12 : Int32) &&& 31))) ||| ((p3 &&& (63 : Int32)) <<< ((6 : Int32) &&& 31))) ||| (p4 &&& (63 : Int32))), iv 65536, iv (if (contF p2) = (0 : Int32) then (0 : Int32) else (if (contF p3) = (0 : Int32) then (0 : Int32) else (if (contF p4) = (0 : Int32) then (0 : Int32) else (1 : Int32)))), iv (if (if (contF p2) = (0 : Int32) then (0 : Int32) else (if (contF p3) = (0 : Int32) then (0 : Int32) else (if (contF p4) = (0 : Int32) then (0 : Int32) else (1 : Int32)))) = (0 : Int32) then (0 : Int32) else (if (((((p1 &&& (7 : Int32)) <<< ((18 : Int32) &&& 31)) ||| ((p2 &&& (63 : Int32)) <<< ((12 : Int32) &&& 31))) ||| ((p3 &&& (63 : Int32)) <<< ((6 : Int32) &&& 31))) ||| (p4 &&& (63 : Int32))) < (65536 : Int32) then (0 : Int32) else (if (1114111 : Int32) < (((((p1 &&& (7 : Int32)) <<< ((18 : Int32) &&& 31)) ||| ((p2 &&& (63 : Int32)) <<< ((12 : Int32) &&& 31))) ||| ((p3 &&& (63 : Int32)) <<< ((6 : Int32) &&& 31))) ||| (p4 &&& (63 : Int32))) then (0 : Int32) else (if (((((p1 &&& (7 : Int32)) <<< ((18 : Int32) &&& 31)) ||| ((p2 &&& (63 : Int32)) <<< ((12 : Int32) &&& 31))) ||| ((p3 &&& (63 : Int32)) <<< ((6 : Int32) &&& 31))) ||| (p4 &&& (63 : Int32))) < (55296 : Int32) then (1 : Int32) else (if (57343 : Int32) < (((((p1 &&& (7 : Int32)) <<< ((18 : Int32) &&& 31)) ||| ((p2 &&& (63 : Int32)) <<< ((12 : Int32) &&& 31))) ||| ((p3 &&& (63 : Int32)) <<< ((6 : Int32) &&& 31))) ||| (p4 &&& (63 : Int32))) then (1 : Int32) else (0 : Int32))))))]) rfl k) ?_
                show Goes p e below QQ (TJ33.setTop (mkF m 241 #[iv p1, iv p2, iv p3, iv p4, iv p5, iv 4, iv (((((p1 &&& (7 : Int32)) <<< ((18 : Int32) &&& 31)) ||| ((p2 &&& (63 : Int32)) <<< ((12 : Int32) &&& 31))) ||| ((p3 &&& (63 : Int32)) <<< ((6 : Int32) &&& 31))) ||| (p4 &&& (63 : Int32))), iv 65536, iv (if (contF p2) = (0 : Int32) then (0 : Int32) else (if (contF p3) = (0 : Int32) then (0 : Int32) else (if (contF p4) = (0 : Int32) then (0 : Int32) else (1 : Int32)))), iv (if (if (contF p2) = (0 : Int32) then (0 : Int32) else (if (contF p3) = (0 : Int32) then (0 : Int32) else (if (contF p4) = (0 : Int32) then (0 : Int32) else (1 : Int32)))) = (0 : Int32) then (0 : Int32) else (if (((((p1 &&& (7 : Int32)) <<< ((18 : Int32) &&& 31)) ||| ((p2 &&& (63 : Int32)) <<< ((12 : Int32) &&& 31))) ||| ((p3 &&& (63 : Int32)) <<< ((6 : Int32) &&& 31))) ||| (p4 &&& (63 : Int32))) < (65536 : Int32) then (0 : Int32) else (if (1114111 : Int32) < (((((p1 &&& (7 : Int32)) <<< ((18 : Int32) &&& 31)) ||| ((p2 &&& (63 : Int32)) <<< ((12 : Int32) &&& 31))) ||| ((p3 &&& (63 : Int32)) <<< ((6 : Int32) &&& 31))) ||| (p4 &&& (63 : Int32))) then (0 : Int32) else (if (((((p1 &&& (7 : Int32)) <<< ((18 : Int32) &&& 31)) ||| ((p2 &&& (63 : Int32)) <<< ((12 : Int32) &&& 31))) ||| ((p3 &&& (63 : Int32)) <<< ((6 : Int32) &&& 31))) ||| (p4 &&& (63 : Int32))) < (55296 : Int32) then (1 : Int32) else (if (57343 : Int32) < (((((p1 &&& (7 : Int32)) <<< ((18 : Int32) &&& 31)) ||| ((p2 &&& (63 : Int32)) <<< ((12 : Int32) &&& 31))) ||| ((p3 &&& (63 : Int32)) <<< ((6 : Int32) &&& 31))) ||| (p4 &&& (63 : Int32))) then (1 : Int32) else (0 : Int32))))))] []))
                refine Goes.on (fun t k => XS.iload XJ33.here hx rfl (hb hby d1_241) rfl k) ?_
                show Goes p e below QQ (TJ33.setTop (mkF m 243 #[iv p1, iv p2, iv p3, iv p4, iv p5, iv 4, iv (((((p1 &&& (7 : Int32)) <<< ((18 : Int32) &&& 31)) ||| ((p2 &&& (63 : Int32)) <<< ((12 : Int32) &&& 31))) ||| ((p3 &&& (63 : Int32)) <<< ((6 : Int32) &&& 31))) ||| (p4 &&& (63 : Int32))), iv 65536, iv (if (contF p2) = (0 : Int32) then (0 : Int32) else (if (contF p3) = (0 : Int32) then (0 : Int32) else (if (contF p4) = (0 : Int32) then (0 : Int32) else (1 : Int32)))), iv (if (if (contF p2) = (0 : Int32) then (0 : Int32) else (if (contF p3) = (0 : Int32) then (0 : Int32) else (if (contF p4) = (0 : Int32) then (0 : Int32) else (1 : Int32)))) = (0 : Int32) then (0 : Int32) else (if (((((p1 &&& (7 : Int32)) <<< ((18 : Int32) &&& 31)) ||| ((p2 &&& (63 : Int32)) <<< ((12 : Int32) &&& 31))) ||| ((p3 &&& (63 : Int32)) <<< ((6 : Int32) &&& 31))) ||| (p4 &&& (63 : Int32))) < (65536 : Int32) then (0 : Int32) else (if (1114111 : Int32) < (((((p1 &&& (7 : Int32)) <<< ((18 : Int32) &&& 31)) ||| ((p2 &&& (63 : Int32)) <<< ((12 : Int32) &&& 31))) ||| ((p3 &&& (63 : Int32)) <<< ((6 : Int32) &&& 31))) ||| (p4 &&& (63 : Int32))) then (0 : Int32) else (if (((((p1 &&& (7 : Int32)) <<< ((18 : Int32) &&& 31)) ||| ((p2 &&& (63 : Int32)) <<< ((12 : Int32) &&& 31))) ||| ((p3 &&& (63 : Int32)) <<< ((6 : Int32) &&& 31))) ||| (p4 &&& (63 : Int32))) < (55296 : Int32) then (1 : Int32) else (if (57343 : Int32) < (((((p1 &&& (7 : Int32)) <<< ((18 : Int32) &&& 31)) ||| ((p2 &&& (63 : Int32)) <<< ((12 : Int32) &&& 31))) ||| ((p3 &&& (63 : Int32)) <<< ((6 : Int32) &&& 31))) ||| (p4 &&& (63 : Int32))) then (1 : Int32) else (0 : Int32))))))] [(.int (if (if (contF p2) = (0 : Int32) then (0 : Int32) else (if (contF p3) = (0 : Int32) then (0 : Int32) else (if (contF p4) = (0 : Int32) then (0 : Int32) else (1 : Int32)))) = (0 : Int32) then (0 : Int32) else (if (((((p1 &&& (7 : Int32)) <<< ((18 : Int32) &&& 31)) ||| ((p2 &&& (63 : Int32)) <<< ((12 : Int32) &&& 31))) ||| ((p3 &&& (63 : Int32)) <<< ((6 : Int32) &&& 31))) ||| (p4 &&& (63 : Int32))) < (65536 : Int32) then (0 : Int32) else (if (1114111 : Int32) < (((((p1 &&& (7 : Int32)) <<< ((18 : Int32) &&& 31)) ||| ((p2 &&& (63 : Int32)) <<< ((12 : Int32) &&& 31))) ||| ((p3 &&& (63 : Int32)) <<< ((6 : Int32) &&& 31))) ||| (p4 &&& (63 : Int32))) then (0 : Int32) else (if (((((p1 &&& (7 : Int32)) <<< ((18 : Int32) &&& 31)) ||| ((p2 &&& (63 : Int32)) <<< ((12 : Int32) &&& 31))) ||| ((p3 &&& (63 : Int32)) <<< ((6 : Int32) &&& 31))) ||| (p4 &&& (63 : Int32))) < (55296 : Int32) then (1 : Int32) else (if (57343 : Int32) < (((((p1 &&& (7 : Int32)) <<< ((18 : Int32) &&& 31)) ||| ((p2 &&& (63 : Int32)) <<< ((12 : Int32) &&& 31))) ||| ((p3 &&& (63 : Int32)) <<< ((6 : Int32) &&& 31))) ||| (p4 &&& (63 : Int32))) then (1 : Int32) else (0 : Int32)))))))]))
                by_cases hb34 : (if (if (contF p2) = (0 : Int32) then (0 : Int32) else (if (contF p3) = (0 : Int32) then (0 : Int32) else (if (contF p4) = (0 : Int32) then (0 : Int32) else (1 : Int32)))) = (0 : Int32) then (0 : Int32) else (if (((((p1 &&& (7 : Int32)) <<< ((18 : Int32) &&& 31)) ||| ((p2 &&& (63 : Int32)) <<< ((12 : Int32) &&& 31))) ||| ((p3 &&& (63 : Int32)) <<< ((6 : Int32) &&& 31))) ||| (p4 &&& (63 : Int32))) < (65536 : Int32) then (0 : Int32) else (if (1114111 : Int32) < (((((p1 &&& (7 : Int32)) <<< ((18 : Int32) &&& 31)) ||| ((p2 &&& (63 : Int32)) <<< ((12 : Int32) &&& 31))) ||| ((p3 &&& (63 : Int32)) <<< ((6 : Int32) &&& 31))) ||| (p4 &&& (63 : Int32))) then (0 : Int32) else (if (((((p1 &&& (7 : Int32)) <<< ((18 : Int32) &&& 31)) ||| ((p2 &&& (63 : Int32)) <<< ((12 : Int32) &&& 31))) ||| ((p3 &&& (63 : Int32)) <<< ((6 : Int32) &&& 31))) ||| (p4 &&& (63 : Int32))) < (55296 : Int32) then (1 : Int32) else (if (57343 : Int32) < (((((p1 &&& (7 : Int32)) <<< ((18 : Int32) &&& 31)) ||| ((p2 &&& (63 : Int32)) <<< ((12 : Int32) &&& 31))) ||| ((p3 &&& (63 : Int32)) <<< ((6 : Int32) &&& 31))) ||| (p4 &&& (63 : Int32))) then (1 : Int32) else (0 : Int32)))))) = (0 : Int32)
                · refine Goes.on (fun t k => XS.ifYes XJ33.here hx rfl (pc0 := 243) (pc' := 251) rfl (hb hby d1_243) rfl ((if0 _ _).trans (teq hb34).1) (by decide) (by decide) k) ?_
                  show Goes p e below QQ (TJ33.setTop (mkF m 251 #[iv p1, iv p2, iv p3, iv p4, iv p5, iv 4, iv (((((p1 &&& (7 : Int32)) <<< ((18 : Int32) &&& 31)) ||| ((p2 &&& (63 : Int32)) <<< ((12 : Int32) &&& 31))) ||| ((p3 &&& (63 : Int32)) <<< ((6 : Int32) &&& 31))) ||| (p4 &&& (63 : Int32))), iv 65536, iv (if (contF p2) = (0 : Int32) then (0 : Int32) else (if (contF p3) = (0 : Int32) then (0 : Int32) else (if (contF p4) = (0 : Int32) then (0 : Int32) else (1 : Int32)))), iv (if (if (contF p2) = (0 : Int32) then (0 : Int32) else (if (contF p3) = (0 : Int32) then (0 : Int32) else (if (contF p4) = (0 : Int32) then (0 : Int32) else (1 : Int32)))) = (0 : Int32) then (0 : Int32) else (if (((((p1 &&& (7 : Int32)) <<< ((18 : Int32) &&& 31)) ||| ((p2 &&& (63 : Int32)) <<< ((12 : Int32) &&& 31))) ||| ((p3 &&& (63 : Int32)) <<< ((6 : Int32) &&& 31))) ||| (p4 &&& (63 : Int32))) < (65536 : Int32) then (0 : Int32) else (if (1114111 : Int32) < (((((p1 &&& (7 : Int32)) <<< ((18 : Int32) &&& 31)) ||| ((p2 &&& (63 : Int32)) <<< ((12 : Int32) &&& 31))) ||| ((p3 &&& (63 : Int32)) <<< ((6 : Int32) &&& 31))) ||| (p4 &&& (63 : Int32))) then (0 : Int32) else (if (((((p1 &&& (7 : Int32)) <<< ((18 : Int32) &&& 31)) ||| ((p2 &&& (63 : Int32)) <<< ((12 : Int32) &&& 31))) ||| ((p3 &&& (63 : Int32)) <<< ((6 : Int32) &&& 31))) ||| (p4 &&& (63 : Int32))) < (55296 : Int32) then (1 : Int32) else (if (57343 : Int32) < (((((p1 &&& (7 : Int32)) <<< ((18 : Int32) &&& 31)) ||| ((p2 &&& (63 : Int32)) <<< ((12 : Int32) &&& 31))) ||| ((p3 &&& (63 : Int32)) <<< ((6 : Int32) &&& 31))) ||| (p4 &&& (63 : Int32))) then (1 : Int32) else (0 : Int32))))))] []))
                  refine Goes.on (fun t k => XS.iconst XJ33.here hx rfl (hb hby d1_251) k) ?_
                  show Goes p e below QQ (TJ33.setTop (mkF m 252 #[iv p1, iv p2, iv p3, iv p4, iv p5, iv 4, iv (((((p1 &&& (7 : Int32)) <<< ((18 : Int32) &&& 31)) ||| ((p2 &&& (63 : Int32)) <<< ((12 : Int32) &&& 31))) ||| ((p3 &&& (63 : Int32)) <<< ((6 : Int32) &&& 31))) ||| (p4 &&& (63 : Int32))), iv 65536, iv (if (contF p2) = (0 : Int32) then (0 : Int32) else (if (contF p3) = (0 : Int32) then (0 : Int32) else (if (contF p4) = (0 : Int32) then (0 : Int32) else (1 : Int32)))), iv (if (if (contF p2) = (0 : Int32) then (0 : Int32) else (if (contF p3) = (0 : Int32) then (0 : Int32) else (if (contF p4) = (0 : Int32) then (0 : Int32) else (1 : Int32)))) = (0 : Int32) then (0 : Int32) else (if (((((p1 &&& (7 : Int32)) <<< ((18 : Int32) &&& 31)) ||| ((p2 &&& (63 : Int32)) <<< ((12 : Int32) &&& 31))) ||| ((p3 &&& (63 : Int32)) <<< ((6 : Int32) &&& 31))) ||| (p4 &&& (63 : Int32))) < (65536 : Int32) then (0 : Int32) else (if (1114111 : Int32) < (((((p1 &&& (7 : Int32)) <<< ((18 : Int32) &&& 31)) ||| ((p2 &&& (63 : Int32)) <<< ((12 : Int32) &&& 31))) ||| ((p3 &&& (63 : Int32)) <<< ((6 : Int32) &&& 31))) ||| (p4 &&& (63 : Int32))) then (0 : Int32) else (if (((((p1 &&& (7 : Int32)) <<< ((18 : Int32) &&& 31)) ||| ((p2 &&& (63 : Int32)) <<< ((12 : Int32) &&& 31))) ||| ((p3 &&& (63 : Int32)) <<< ((6 : Int32) &&& 31))) ||| (p4 &&& (63 : Int32))) < (55296 : Int32) then (1 : Int32) else (if (57343 : Int32) < (((((p1 &&& (7 : Int32)) <<< ((18 : Int32) &&& 31)) ||| ((p2 &&& (63 : Int32)) <<< ((12 : Int32) &&& 31))) ||| ((p3 &&& (63 : Int32)) <<< ((6 : Int32) &&& 31))) ||| (p4 &&& (63 : Int32))) then (1 : Int32) else (0 : Int32))))))] [(.int 0)]))
                  exact Goes.rI XJ33 hx hret hlk (hb hby d1_252) hQQ ⟨congrArg (fun z => some (Value.int z)) (((if_neg hb1).trans ((if_neg hb3).trans ((if_neg hb15).trans ((if_pos hb29).trans ((if_neg hb30).trans ((if_pos hb34).trans rfl)))))) : (expF p1 p2 p3 p4 p5) = (0 : Int32)).symm, NJ33, eJ33⟩ (by decide) (by decide)
                · refine Goes.on (fun t k => XS.ifNo XJ33.here hx rfl (hb hby d1_243) rfl ((if0 _ _).trans (feq hb34).1) k) ?_
                  show Goes p e below QQ (TJ33.setTop (mkF m 246 #[iv p1, iv p2, iv p3, iv p4, iv p5, iv 4, iv (((((p1 &&& (7 : Int32)) <<< ((18 : Int32) &&& 31)) ||| ((p2 &&& (63 : Int32)) <<< ((12 : Int32) &&& 31))) ||| ((p3 &&& (63 : Int32)) <<< ((6 : Int32) &&& 31))) ||| (p4 &&& (63 : Int32))), iv 65536, iv (if (contF p2) = (0 : Int32) then (0 : Int32) else (if (contF p3) = (0 : Int32) then (0 : Int32) else (if (contF p4) = (0 : Int32) then (0 : Int32) else (1 : Int32)))), iv (if (if (contF p2) = (0 : Int32) then (0 : Int32) else (if (contF p3) = (0 : Int32) then (0 : Int32) else (if (contF p4) = (0 : Int32) then (0 : Int32) else (1 : Int32)))) = (0 : Int32) then (0 : Int32) else (if (((((p1 &&& (7 : Int32)) <<< ((18 : Int32) &&& 31)) ||| ((p2 &&& (63 : Int32)) <<< ((12 : Int32) &&& 31))) ||| ((p3 &&& (63 : Int32)) <<< ((6 : Int32) &&& 31))) ||| (p4 &&& (63 : Int32))) < (65536 : Int32) then (0 : Int32) else (if (1114111 : Int32) < (((((p1 &&& (7 : Int32)) <<< ((18 : Int32) &&& 31)) ||| ((p2 &&& (63 : Int32)) <<< ((12 : Int32) &&& 31))) ||| ((p3 &&& (63 : Int32)) <<< ((6 : Int32) &&& 31))) ||| (p4 &&& (63 : Int32))) then (0 : Int32) else (if (((((p1 &&& (7 : Int32)) <<< ((18 : Int32) &&& 31)) ||| ((p2 &&& (63 : Int32)) <<< ((12 : Int32) &&& 31))) ||| ((p3 &&& (63 : Int32)) <<< ((6 : Int32) &&& 31))) ||| (p4 &&& (63 : Int32))) < (55296 : Int32) then (1 : Int32) else (if (57343 : Int32) < (((((p1 &&& (7 : Int32)) <<< ((18 : Int32) &&& 31)) ||| ((p2 &&& (63 : Int32)) <<< ((12 : Int32) &&& 31))) ||| ((p3 &&& (63 : Int32)) <<< ((6 : Int32) &&& 31))) ||| (p4 &&& (63 : Int32))) then (1 : Int32) else (0 : Int32))))))] []))
                  refine Goes.on (fun t k => XS.iload XJ33.here hx rfl (hb hby d1_246) rfl k) ?_
                  show Goes p e below QQ (TJ33.setTop (mkF m 248 #[iv p1, iv p2, iv p3, iv p4, iv p5, iv 4, iv (((((p1 &&& (7 : Int32)) <<< ((18 : Int32) &&& 31)) ||| ((p2 &&& (63 : Int32)) <<< ((12 : Int32) &&& 31))) ||| ((p3 &&& (63 : Int32)) <<< ((6 : Int32) &&& 31))) ||| (p4 &&& (63 : Int32))), iv 65536, iv (if (contF p2) = (0 : Int32) then (0 : Int32) else (if (contF p3) = (0 : Int32) then (0 : Int32) else (if (contF p4) = (0 : Int32) then (0 : Int32) else (1 : Int32)))), iv (if (if (contF p2) = (0 : Int32) then (0 : Int32) else (if (contF p3) = (0 : Int32) then (0 : Int32) else (if (contF p4) = (0 : Int32) then (0 : Int32) else (1 : Int32)))) = (0 : Int32) then (0 : Int32) else (if (((((p1 &&& (7 : Int32)) <<< ((18 : Int32) &&& 31)) ||| ((p2 &&& (63 : Int32)) <<< ((12 : Int32) &&& 31))) ||| ((p3 &&& (63 : Int32)) <<< ((6 : Int32) &&& 31))) ||| (p4 &&& (63 : Int32))) < (65536 : Int32) then (0 : Int32) else (if (1114111 : Int32) < (((((p1 &&& (7 : Int32)) <<< ((18 : Int32) &&& 31)) ||| ((p2 &&& (63 : Int32)) <<< ((12 : Int32) &&& 31))) ||| ((p3 &&& (63 : Int32)) <<< ((6 : Int32) &&& 31))) ||| (p4 &&& (63 : Int32))) then (0 : Int32) else (if (((((p1 &&& (7 : Int32)) <<< ((18 : Int32) &&& 31)) ||| ((p2 &&& (63 : Int32)) <<< ((12 : Int32) &&& 31))) ||| ((p3 &&& (63 : Int32)) <<< ((6 : Int32) &&& 31))) ||| (p4 &&& (63 : Int32))) < (55296 : Int32) then (1 : Int32) else (if (57343 : Int32) < (((((p1 &&& (7 : Int32)) <<< ((18 : Int32) &&& 31)) ||| ((p2 &&& (63 : Int32)) <<< ((12 : Int32) &&& 31))) ||| ((p3 &&& (63 : Int32)) <<< ((6 : Int32) &&& 31))) ||| (p4 &&& (63 : Int32))) then (1 : Int32) else (0 : Int32))))))] [(.int 4)]))
                  refine Goes.on (fun t k => XS.goto XJ33.here hx rfl (pc0 := 248) (pc' := 252) rfl (hb hby d1_248) (by decide) (by decide) k) ?_
                  show Goes p e below QQ (TJ33.setTop (mkF m 252 #[iv p1, iv p2, iv p3, iv p4, iv p5, iv 4, iv (((((p1 &&& (7 : Int32)) <<< ((18 : Int32) &&& 31)) ||| ((p2 &&& (63 : Int32)) <<< ((12 : Int32) &&& 31))) ||| ((p3 &&& (63 : Int32)) <<< ((6 : Int32) &&& 31))) ||| (p4 &&& (63 : Int32))), iv 65536, iv (if (contF p2) = (0 : Int32) then (0 : Int32) else (if (contF p3) = (0 : Int32) then (0 : Int32) else (if (contF p4) = (0 : Int32) then (0 : Int32) else (1 : Int32)))), iv (if (if (contF p2) = (0 : Int32) then (0 : Int32) else (if (contF p3) = (0 : Int32) then (0 : Int32) else (if (contF p4) = (0 : Int32) then (0 : Int32) else (1 : Int32)))) = (0 : Int32) then (0 : Int32) else (if (((((p1 &&& (7 : Int32)) <<< ((18 : Int32) &&& 31)) ||| ((p2 &&& (63 : Int32)) <<< ((12 : Int32) &&& 31))) ||| ((p3 &&& (63 : Int32)) <<< ((6 : Int32) &&& 31))) ||| (p4 &&& (63 : Int32))) < (65536 : Int32) then (0 : Int32) else (if (1114111 : Int32) < (((((p1 &&& (7 : Int32)) <<< ((18 : Int32) &&& 31)) ||| ((p2 &&& (63 : Int32)) <<< ((12 : Int32) &&& 31))) ||| ((p3 &&& (63 : Int32)) <<< ((6 : Int32) &&& 31))) ||| (p4 &&& (63 : Int32))) then (0 : Int32) else (if (((((p1 &&& (7 : Int32)) <<< ((18 : Int32) &&& 31)) ||| ((p2 &&& (63 : Int32)) <<< ((12 : Int32) &&& 31))) ||| ((p3 &&& (63 : Int32)) <<< ((6 : Int32) &&& 31))) ||| (p4 &&& (63 : Int32))) < (55296 : Int32) then (1 : Int32) else (if (57343 : Int32) < (((((p1 &&& (7 : Int32)) <<< ((18 : Int32) &&& 31)) ||| ((p2 &&& (63 : Int32)) <<< ((12 : Int32) &&& 31))) ||| ((p3 &&& (63 : Int32)) <<< ((6 : Int32) &&& 31))) ||| (p4 &&& (63 : Int32))) then (1 : Int32) else (0 : Int32))))))] [(.int 4)]))
                  exact Goes.rI XJ33 hx hret hlk (hb hby d1_252) hQQ ⟨congrArg (fun z => some (Value.int z)) (((if_neg hb1).trans ((if_neg hb3).trans ((if_neg hb15).trans ((if_pos hb29).trans ((if_neg hb30).trans ((if_neg hb34).trans rfl)))))) : (expF p1 p2 p3 p4 p5) = (4 : Int32)).symm, NJ33, eJ33⟩ (by decide) (by decide)
              show Goes p e below QQ (TJ32.setTop (mkF m 203 #[iv p1, iv p2, iv p3, iv p4, iv p5, iv 4, iv (((((p1 &&& (7 : Int32)) <<< ((18 : Int32) &&& 31)) ||| ((p2 &&& (63 : Int32)) <<< ((12 : Int32) &&& 31))) ||| ((p3 &&& (63 : Int32)) <<< ((6 : Int32) &&& 31))) ||| (p4 &&& (63 : Int32))), iv 65536, iv (if (contF p2) = (0 : Int32) then (0 : Int32) else (if (contF p3) = (0 : Int32) then (0 : Int32) else (if (contF p4) = (0 : Int32) then (0 : Int32) else (1 : Int32)))), .unset] [(.int (if (contF p2) = (0 : Int32) then (0 : Int32) else (if (contF p3) = (0 : Int32) then (0 : Int32) else (if (contF p4) = (0 : Int32) then (0 : Int32) else (1 : Int32)))))]))
              by_cases hb35 : (if (contF p2) = (0 : Int32) then (0 : Int32) else (if (contF p3) = (0 : Int32) then (0 : Int32) else (if (contF p4) = (0 : Int32) then (0 : Int32) else (1 : Int32)))) = (0 : Int32)
              · refine Goes.on (fun t k => XS.ifYes XJ32.here hx rfl (pc0 := 203) (pc' := 238) rfl (hb hby d1_203) rfl ((if0 _ _).trans (teq hb35).1) (by decide) (by decide) k) ?_
                show Goes p e below QQ (TJ32.setTop (mkF m 238 #[iv p1, iv p2, iv p3, iv p4, iv p5, iv 4, iv (((((p1 &&& (7 : Int32)) <<< ((18 : Int32) &&& 31)) ||| ((p2 &&& (63 : Int32)) <<< ((12 : Int32) &&& 31))) ||| ((p3 &&& (63 : Int32)) <<< ((6 : Int32) &&& 31))) ||| (p4 &&& (63 : Int32))), iv 65536, iv (if (contF p2) = (0 : Int32) then (0 : Int32) else (if (contF p3) = (0 : Int32) then (0 : Int32) else (if (contF p4) = (0 : Int32) then (0 : Int32) else (1 : Int32)))), .unset] []))
                refine Goes.on (fun t k => XS.iconst XJ32.here hx rfl (hb hby d1_238) k) ?_
                show Goes p e below QQ (TJ32.setTop (mkF m 239 #[iv p1, iv p2, iv p3, iv p4, iv p5, iv 4, iv (((((p1 &&& (7 : Int32)) <<< ((18 : Int32) &&& 31)) ||| ((p2 &&& (63 : Int32)) <<< ((12 : Int32) &&& 31))) ||| ((p3 &&& (63 : Int32)) <<< ((6 : Int32) &&& 31))) ||| (p4 &&& (63 : Int32))), iv 65536, iv (if (contF p2) = (0 : Int32) then (0 : Int32) else (if (contF p3) = (0 : Int32) then (0 : Int32) else (if (contF p4) = (0 : Int32) then (0 : Int32) else (1 : Int32)))), .unset] [(.int 0)]))
                rw [(((if_pos hb35).trans rfl) : (if (if (contF p2) = (0 : Int32) then (0 : Int32) else (if (contF p3) = (0 : Int32) then (0 : Int32) else (if (contF p4) = (0 : Int32) then (0 : Int32) else (1 : Int32)))) = (0 : Int32) then (0 : Int32) else (if (((((p1 &&& (7 : Int32)) <<< ((18 : Int32) &&& 31)) ||| ((p2 &&& (63 : Int32)) <<< ((12 : Int32) &&& 31))) ||| ((p3 &&& (63 : Int32)) <<< ((6 : Int32) &&& 31))) ||| (p4 &&& (63 : Int32))) < (65536 : Int32) then (0 : Int32) else (if (1114111 : Int32) < (((((p1 &&& (7 : Int32)) <<< ((18 : Int32) &&& 31)) ||| ((p2 &&& (63 : Int32)) <<< ((12 : Int32) &&& 31))) ||| ((p3 &&& (63 : Int32)) <<< ((6 : Int32) &&& 31))) ||| (p4 &&& (63 : Int32))) then (0 : Int32) else (if (((((p1 &&& (7 : Int32)) <<< ((18 : Int32) &&& 31)) ||| ((p2 &&& (63 : Int32)) <<< ((12 : Int32) &&& 31))) ||| ((p3 &&& (63 : Int32)) <<< ((6 : Int32) &&& 31))) ||| (p4 &&& (63 : Int32))) < (55296 : Int32) then (1 : Int32) else (if (57343 : Int32) < (((((p1 &&& (7 : Int32)) <<< ((18 : Int32) &&& 31)) ||| ((p2 &&& (63 : Int32)) <<< ((12 : Int32) &&& 31))) ||| ((p3 &&& (63 : Int32)) <<< ((6 : Int32) &&& 31))) ||| (p4 &&& (63 : Int32))) then (1 : Int32) else (0 : Int32)))))) = (0 : Int32))] at J33
                exact J33 _ _ XJ32 eJ32 NJ32
              · refine Goes.on (fun t k => XS.ifNo XJ32.here hx rfl (hb hby d1_203) rfl ((if0 _ _).trans (feq hb35).1) k) ?_
                show Goes p e below QQ (TJ32.setTop (mkF m 206 #[iv p1, iv p2, iv p3, iv p4, iv p5, iv 4, iv (((((p1 &&& (7 : Int32)) <<< ((18 : Int32) &&& 31)) ||| ((p2 &&& (63 : Int32)) <<< ((12 : Int32) &&& 31))) ||| ((p3 &&& (63 : Int32)) <<< ((6 : Int32) &&& 31))) ||| (p4 &&& (63 : Int32))), iv 65536, iv (if (contF p2) = (0 : Int32) then (0 : Int32) else (if (contF p3) = (0 : Int32) then (0 : Int32) else (if (contF p4) = (0 : Int32) then (0 : Int32) else (1 : Int32)))), .unset] []))
                refine Goes.on (fun t k => XS.iload XJ32.here hx rfl (hb hby d1_206) rfl k) ?_
                show Goes p e below QQ (TJ32.setTop (mkF m 208 #[iv p1, iv p2, iv p3, iv p4, iv p5, iv 4, iv (((((p1 &&& (7 : Int32)) <<< ((18 : Int32) &&& 31)) ||| ((p2 &&& (63 : Int32)) <<< ((12 : Int32) &&& 31))) ||| ((p3 &&& (63 : Int32)) <<< ((6 : Int32) &&& 31))) ||| (p4 &&& (63 : Int32))), iv 65536, iv (if (contF p2) = (0 : Int32) then (0 : Int32) else (if (contF p3) = (0 : Int32) then (0 : Int32) else (if (contF p4) = (0 : Int32) then (0 : Int32) else (1 : Int32)))), .unset] [(.int (((((p1 &&& (7 : Int32)) <<< ((18 : Int32) &&& 31)) ||| ((p2 &&& (63 : Int32)) <<< ((12 : Int32) &&& 31))) ||| ((p3 &&& (63 : Int32)) <<< ((6 : Int32) &&& 31))) ||| (p4 &&& (63 : Int32))))]))
                refine Goes.on (fun t k => XS.iload XJ32.here hx rfl (hb hby d1_208) rfl k) ?_
                show Goes p e below QQ (TJ32.setTop (mkF m 210 #[iv p1, iv p2, iv p3, iv p4, iv p5, iv 4, iv (((((p1 &&& (7 : Int32)) <<< ((18 : Int32) &&& 31)) ||| ((p2 &&& (63 : Int32)) <<< ((12 : Int32) &&& 31))) ||| ((p3 &&& (63 : Int32)) <<< ((6 : Int32) &&& 31))) ||| (p4 &&& (63 : Int32))), iv 65536, iv (if (contF p2) = (0 : Int32) then (0 : Int32) else (if (contF p3) = (0 : Int32) then (0 : Int32) else (if (contF p4) = (0 : Int32) then (0 : Int32) else (1 : Int32)))), .unset] [(.int 65536), (.int (((((p1 &&& (7 : Int32)) <<< ((18 : Int32) &&& 31)) ||| ((p2 &&& (63 : Int32)) <<< ((12 : Int32) &&& 31))) ||| ((p3 &&& (63 : Int32)) <<< ((6 : Int32) &&& 31))) ||| (p4 &&& (63 : Int32))))]))
                by_cases hb36 : (((((p1 &&& (7 : Int32)) <<< ((18 : Int32) &&& 31)) ||| ((p2 &&& (63 : Int32)) <<< ((12 : Int32) &&& 31))) ||| ((p3 &&& (63 : Int32)) <<< ((6 : Int32) &&& 31))) ||| (p4 &&& (63 : Int32))) < (65536 : Int32)
                · refine Goes.on (fun t k => XS.icmpYes XJ32.here hx rfl (pc0 := 210) (pc' := 238) rfl (hb hby d1_210) rfl (tlt hb36).1 (by decide) (by decide) k) ?_
                  show Goes p e below QQ (TJ32.setTop (mkF m 238 #[iv p1, iv p2, iv p3, iv p4, iv p5, iv 4, iv (((((p1 &&& (7 : Int32)) <<< ((18 : Int32) &&& 31)) ||| ((p2 &&& (63 : Int32)) <<< ((12 : Int32) &&& 31))) ||| ((p3 &&& (63 : Int32)) <<< ((6 : Int32) &&& 31))) ||| (p4 &&& (63 : Int32))), iv 65536, iv (if (contF p2) = (0 : Int32) then (0 : Int32) else (if (contF p3) = (0 : Int32) then (0 : Int32) else (if (contF p4) = (0 : Int32) then (0 : Int32) else (1 : Int32)))), .unset] []))
                  refine Goes.on (fun t k => XS.iconst XJ32.here hx rfl (hb hby d1_238) k) ?_
                  show Goes p e below QQ (TJ32.setTop (mkF m 239 #[iv p1, iv p2, iv p3, iv p4, iv p5, iv 4, iv (((((p1 &&& (7 : Int32)) <<< ((18 : Int32) &&& 31)) ||| ((p2 &&& (63 : Int32)) <<< ((12 : Int32) &&& 31))) ||| ((p3 &&& (63 : Int32)) <<< ((6 : Int32) &&& 31))) ||| (p4 &&& (63 : Int32))), iv 65536, iv (if (contF p2) = (0 : Int32) then (0 : Int32) else (if (contF p3) = (0 : Int32) then (0 : Int32) else (if (contF p4) = (0 : Int32) then (0 : Int32) else (1 : Int32)))), .unset] [(.int 0)]))
                  rw [(((if_neg hb35).trans ((if_pos hb36).trans rfl)) : (if (if (contF p2) = (0 : Int32) then (0 : Int32) else (if (contF p3) = (0 : Int32) then (0 : Int32) else (if (contF p4) = (0 : Int32) then (0 : Int32) else (1 : Int32)))) = (0 : Int32) then (0 : Int32) else (if (((((p1 &&& (7 : Int32)) <<< ((18 : Int32) &&& 31)) ||| ((p2 &&& (63 : Int32)) <<< ((12 : Int32) &&& 31))) ||| ((p3 &&& (63 : Int32)) <<< ((6 : Int32) &&& 31))) ||| (p4 &&& (63 : Int32))) < (65536 : Int32) then (0 : Int32) else (if (1114111 : Int32) < (((((p1 &&& (7 : Int32)) <<< ((18 : Int32) &&& 31)) ||| ((p2 &&& (63 : Int32)) <<< ((12 : Int32) &&& 31))) ||| ((p3 &&& (63 : Int32)) <<< ((6 : Int32) &&& 31))) ||| (p4 &&& (63 : Int32))) then (0 : Int32) else (if (((((p1 &&& (7 : Int32)) <<< ((18 : Int32) &&& 31)) ||| ((p2 &&& (63 : Int32)) <<< ((12 : Int32) &&& 31))) ||| ((p3 &&& (63 : Int32)) <<< ((6 : Int32) &&& 31))) ||| (p4 &&& (63 : Int32))) < (55296 : Int32) then (1 : Int32) else (if (57343 : Int32) < (((((p1 &&& (7 : Int32)) <<< ((18 : Int32) &&& 31)) ||| ((p2 &&& (63 : Int32)) <<< ((12 : Int32) &&& 31))) ||| ((p3 &&& (63 : Int32)) <<< ((6 : Int32) &&& 31))) ||| (p4 &&& (63 : Int32))) then (1 : Int32) else (0 : Int32)))))) = (0 : Int32))] at J33
                  exact J33 _ _ XJ32 eJ32 NJ32
                · refine Goes.on (fun t k => XS.icmpNo XJ32.here hx rfl (hb hby d1_210) rfl (flt hb36).1 k) ?_
                  show Goes p e below QQ (TJ32.setTop (mkF m 213 #[iv p1, iv p2, iv p3, iv p4, iv p5, iv 4, iv (((((p1 &&& (7 : Int32)) <<< ((18 : Int32) &&& 31)) ||| ((p2 &&& (63 : Int32)) <<< ((12 : Int32) &&& 31))) ||| ((p3 &&& (63 : Int32)) <<< ((6 : Int32) &&& 31))) ||| (p4 &&& (63 : Int32))), iv 65536, iv (if (contF p2) = (0 : Int32) then (0 : Int32) else (if (contF p3) = (0 : Int32) then (0 : Int32) else (if (contF p4) = (0 : Int32) then (0 : Int32) else (1 : Int32)))), .unset] []))
                  refine Goes.on (fun t k => XS.iload XJ32.here hx rfl (hb hby d1_213) rfl k) ?_
                  show Goes p e below QQ (TJ32.setTop (mkF m 215 #[iv p1, iv p2, iv p3, iv p4, iv p5, iv 4, iv (((((p1 &&& (7 : Int32)) <<< ((18 : Int32) &&& 31)) ||| ((p2 &&& (63 : Int32)) <<< ((12 : Int32) &&& 31))) ||| ((p3 &&& (63 : Int32)) <<< ((6 : Int32) &&& 31))) ||| (p4 &&& (63 : Int32))), iv 65536, iv (if (contF p2) = (0 : Int32) then (0 : Int32) else (if (contF p3) = (0 : Int32) then (0 : Int32) else (if (contF p4) = (0 : Int32) then (0 : Int32) else (1 : Int32)))), .unset] [(.int (((((p1 &&& (7 : Int32)) <<< ((18 : Int32) &&& 31)) ||| ((p2 &&& (63 : Int32)) <<< ((12 : Int32) &&& 31))) ||| ((p3 &&& (63 : Int32)) <<< ((6 : Int32) &&& 31))) ||| (p4 &&& (63 : Int32))))]))
                  refine Goes.on (fun t k => XJ32.ldcInt hx hown (mvT hZ (hw _ (List.mem_of_getElem? (i := 14) rfl))) (g := (mkF m 215 #[iv p1, iv p2, iv p3, iv p4, iv p5, iv 4, iv (((((p1 &&& (7 : Int32)) <<< ((18 : Int32) &&& 31)) ||| ((p2 &&& (63 : Int32)) <<< ((12 : Int32) &&& 31))) ||| ((p3 &&& (63 : Int32)) <<< ((6 : Int32) &&& 31))) ||| (p4 &&& (63 : Int32))), iv 65536, iv (if (contF p2) = (0 : Int32) then (0 : Int32) else (if (contF p3) = (0 : Int32) then (0 : Int32) else (if (contF p4) = (0 : Int32) then (0 : Int32) else (1 : Int32)))), .unset] [(.int (((((p1 &&& (7 : Int32)) <<< ((18 : Int32) &&& 31)) ||| ((p2 &&& (63 : Int32)) <<< ((12 : Int32) &&& 31))) ||| ((p3 &&& (63 : Int32)) <<< ((6 : Int32) &&& 31))) ||| (p4 &&& (63 : Int32))))])) rfl (hb hby d1_215) t k) ?_
                  show Goes p e below QQ (TJ32.setTop (mkF m 217 #[iv p1, iv p2, iv p3, iv p4, iv p5, iv 4, iv (((((p1 &&& (7 : Int32)) <<< ((18 : Int32) &&& 31)) ||| ((p2 &&& (63 : Int32)) <<< ((12 : Int32) &&& 31))) ||| ((p3 &&& (63 : Int32)) <<< ((6 : Int32) &&& 31))) ||| (p4 &&& (63 : Int32))), iv 65536, iv (if (contF p2) = (0 : Int32) then (0 : Int32) else (if (contF p3) = (0 : Int32) then (0 : Int32) else (if (contF p4) = (0 : Int32) then (0 : Int32) else (1 : Int32)))), .unset] [(.int 1114111), (.int (((((p1 &&& (7 : Int32)) <<< ((18 : Int32) &&& 31)) ||| ((p2 &&& (63 : Int32)) <<< ((12 : Int32) &&& 31))) ||| ((p3 &&& (63 : Int32)) <<< ((6 : Int32) &&& 31))) ||| (p4 &&& (63 : Int32))))]))
                  by_cases hb37 : (1114111 : Int32) < (((((p1 &&& (7 : Int32)) <<< ((18 : Int32) &&& 31)) ||| ((p2 &&& (63 : Int32)) <<< ((12 : Int32) &&& 31))) ||| ((p3 &&& (63 : Int32)) <<< ((6 : Int32) &&& 31))) ||| (p4 &&& (63 : Int32)))
                  · refine Goes.on (fun t k => XS.icmpYes XJ32.here hx rfl (pc0 := 217) (pc' := 238) rfl (hb hby d1_217) rfl (tlt hb37).2.2.1 (by decide) (by decide) k) ?_
                    show Goes p e below QQ (TJ32.setTop (mkF m 238 #[iv p1, iv p2, iv p3, iv p4, iv p5, iv 4, iv (((((p1 &&& (7 : Int32)) <<< ((18 : Int32) &&& 31)) ||| ((p2 &&& (63 : Int32)) <<< ((12 : Int32) &&& 31))) ||| ((p3 &&& (63 : Int32)) <<< ((6 : Int32) &&& 31))) ||| (p4 &&& (63 : Int32))), iv 65536, iv (if (contF p2) = (0 : Int32) then (0 : Int32) else (if (contF p3) = (0 : Int32) then (0 : Int32) else (if (contF p4) = (0 : Int32) then (0 : Int32) else (1 : Int32)))), .unset] []))
                    refine Goes.on (fun t k => XS.iconst XJ32.here hx rfl (hb hby d1_238) k) ?_
                    show Goes p e below QQ (TJ32.setTop (mkF m 239 #[iv p1, iv p2, iv p3, iv p4, iv p5, iv 4, iv (((((p1 &&& (7 : Int32)) <<< ((18 : Int32) &&& 31)) ||| ((p2 &&& (63 : Int32)) <<< ((12 : Int32) &&& 31))) ||| ((p3 &&& (63 : Int32)) <<< ((6 : Int32) &&& 31))) ||| (p4 &&& (63 : Int32))), iv 65536, iv (if (contF p2) = (0 : Int32) then (0 : Int32) else (if (contF p3) = (0 : Int32) then (0 : Int32) else (if (contF p4) = (0 : Int32) then (0 : Int32) else (1 : Int32)))), .unset] [(.int 0)]))
                    rw [(((if_neg hb35).trans ((if_neg hb36).trans ((if_pos hb37).trans rfl))) : (if (if (contF p2) = (0 : Int32) then (0 : Int32) else (if (contF p3) = (0 : Int32) then (0 : Int32) else (if (contF p4) = (0 : Int32) then (0 : Int32) else (1 : Int32)))) = (0 : Int32) then (0 : Int32) else (if (((((p1 &&& (7 : Int32)) <<< ((18 : Int32) &&& 31)) ||| ((p2 &&& (63 : Int32)) <<< ((12 : Int32) &&& 31))) ||| ((p3 &&& (63 : Int32)) <<< ((6 : Int32) &&& 31))) ||| (p4 &&& (63 : Int32))) < (65536 : Int32) then (0 : Int32) else (if (1114111 : Int32) < (((((p1 &&& (7 : Int32)) <<< ((18 : Int32) &&& 31)) ||| ((p2 &&& (63 : Int32)) <<< ((12 : Int32) &&& 31))) ||| ((p3 &&& (63 : Int32)) <<< ((6 : Int32) &&& 31))) ||| (p4 &&& (63 : Int32))) then (0 : Int32) else (if (((((p1 &&& (7 : Int32)) <<< ((18 : Int32) &&& 31)) ||| ((p2 &&& (63 : Int32)) <<< ((12 : Int32) &&& 31))) ||| ((p3 &&& (63 : Int32)) <<< ((6 : Int32) &&& 31))) ||| (p4 &&& (63 : Int32))) < (55296 : Int32) then (1 : Int32) else (if (57343 : Int32) < (((((p1 &&& (7 : Int32)) <<< ((18 : Int32) &&& 31)) ||| ((p2 &&& (63 : Int32)) <<< ((12 : Int32) &&& 31))) ||| ((p3 &&& (63 : Int32)) <<< ((6 : Int32) &&& 31))) ||| (p4 &&& (63 : Int32))) then (1 : Int32) else (0 : Int32)))))) = (0 : Int32))] at J33
                    exact J33 _ _ XJ32 eJ32 NJ32
                  · refine Goes.on (fun t k => XS.icmpNo XJ32.here hx rfl (hb hby d1_217) rfl (flt hb37).2.2.1 k) ?_
                    show Goes p e below QQ (TJ32.setTop (mkF m 220 #[iv p1, iv p2, iv p3, iv p4, iv p5, iv 4, iv (((((p1 &&& (7 : Int32)) <<< ((18 : Int32) &&& 31)) ||| ((p2 &&& (63 : Int32)) <<< ((12 : Int32) &&& 31))) ||| ((p3 &&& (63 : Int32)) <<< ((6 : Int32) &&& 31))) ||| (p4 &&& (63 : Int32))), iv 65536, iv (if (contF p2) = (0 : Int32) then (0 : Int32) else (if (contF p3) = (0 : Int32) then (0 : Int32) else (if (contF p4) = (0 : Int32) then (0 : Int32) else (1 : Int32)))), .unset] []))
                    refine Goes.on (fun t k => XS.iload XJ32.here hx rfl (hb hby d1_220) rfl k) ?_
                    show Goes p e below QQ (TJ32.setTop (mkF m 222 #[iv p1, iv p2, iv p3, iv p4, iv p5, iv 4, iv (((((p1 &&& (7 : Int32)) <<< ((18 : Int32) &&& 31)) ||| ((p2 &&& (63 : Int32)) <<< ((12 : Int32) &&& 31))) ||| ((p3 &&& (63 : Int32)) <<< ((6 : Int32) &&& 31))) ||| (p4 &&& (63 : Int32))), iv 65536, iv (if (contF p2) = (0 : Int32) then (0 : Int32) else (if (contF p3) = (0 : Int32) then (0 : Int32) else (if (contF p4) = (0 : Int32) then (0 : Int32) else (1 : Int32)))), .unset] [(.int (((((p1 &&& (7 : Int32)) <<< ((18 : Int32) &&& 31)) ||| ((p2 &&& (63 : Int32)) <<< ((12 : Int32) &&& 31))) ||| ((p3 &&& (63 : Int32)) <<< ((6 : Int32) &&& 31))) ||| (p4 &&& (63 : Int32))))]))
                    refine Goes.on (fun t k => XJ32.ldcInt hx hown (mvT hZ (hw _ (List.mem_of_getElem? (i := 15) rfl))) (g := (mkF m 222 #[iv p1, iv p2, iv p3, iv p4, iv p5, iv 4, iv (((((p1 &&& (7 : Int32)) <<< ((18 : Int32) &&& 31)) ||| ((p2 &&& (63 : Int32)) <<< ((12 : Int32) &&& 31))) ||| ((p3 &&& (63 : Int32)) <<< ((6 : Int32) &&& 31))) ||| (p4 &&& (63 : Int32))), iv 65536, iv (if (contF p2) = (0 : Int32) then (0 : Int32) else (if (contF p3) = (0 : Int32) then (0 : Int32) else (if (contF p4) = (0 : Int32) then (0 : Int32) else (1 : Int32)))), .unset] [(.int (((((p1 &&& (7 : Int32)) <<< ((18 : Int32) &&& 31)) ||| ((p2 &&& (63 : Int32)) <<< ((12 : Int32) &&& 31))) ||| ((p3 &&& (63 : Int32)) <<< ((6 : Int32) &&& 31))) ||| (p4 &&& (63 : Int32))))])) rfl (hb hby d1_222) t k) ?_
                    show Goes p e below QQ (TJ32.setTop (mkF m 224 #[iv p1, iv p2, iv p3, iv p4, iv p5, iv 4, iv (((((p1 &&& (7 : Int32)) <<< ((18 : Int32) &&& 31)) ||| ((p2 &&& (63 : Int32)) <<< ((12 : Int32) &&& 31))) ||| ((p3 &&& (63 : Int32)) <<< ((6 : Int32) &&& 31))) ||| (p4 &&& (63 : Int32))), iv 65536, iv (if (contF p2) = (0 : Int32) then (0 : Int32) else (if (contF p3) = (0 : Int32) then (0 : Int32) else (if (contF p4) = (0 : Int32) then (0 : Int32) else (1 : Int32)))), .unset] [(.int 55296), (.int (((((p1 &&& (7 : Int32)) <<< ((18 : Int32) &&& 31)) ||| ((p2 &&& (63 : Int32)) <<< ((12 : Int32) &&& 31))) ||| ((p3 &&& (63 : Int32)) <<< ((6 : Int32) &&& 31))) ||| (p4 &&& (63 : Int32))))]))
                    by_cases hb38 : (((((p1 &&& (7 : Int32)) <<< ((18 : Int32) &&& 31)) ||| ((p2 &&& (63 : Int32)) <<< ((12 : Int32) &&& 31))) ||| ((p3 &&& (63 : Int32)) <<< ((6 : Int32) &&& 31))) ||| (p4 &&& (63 : Int32))) < (55296 : Int32)
                    · refine Goes.on (fun t k => XS.icmpYes XJ32.here hx rfl (pc0 := 224) (pc' := 234) rfl (hb hby d1_224) rfl (tlt hb38).1 (by decide) (by decide) k) ?_
                      show Goes p e below QQ (TJ32.setTop (mkF m 234 #[iv p1, iv p2, iv p3, iv p4, iv p5, iv 4, iv (((((p1 &&& (7 : Int32)) <<< ((18 : Int32) &&& 31)) ||| ((p2 &&& (63 : Int32)) <<< ((12 : Int32) &&& 31))) ||| ((p3 &&& (63 : Int32)) <<< ((6 : Int32) &&& 31))) ||| (p4 &&& (63 : Int32))), iv 65536, iv (if (contF p2) = (0 : Int32) then (0 : Int32) else (if (contF p3) = (0 : Int32) then (0 : Int32) else (if (contF p4) = (0 : Int32) then (0 : Int32) else (1 : Int32)))), .unset] []))
                      refine Goes.on (fun t k => XS.iconst XJ32.here hx rfl (hb hby d1_234) k) ?_
                      show Goes p e below QQ (TJ32.setTop (mkF m 235 #[iv p1, iv p2, iv p3, iv p4, iv p5, iv 4, iv (((((p1 &&& (7 : Int32)) <<< ((18 : Int32) &&& 31)) ||| ((p2 &&& (63 : Int32)) <<< ((12 : Int32) &&& 31))) ||| ((p3 &&& (63 : Int32)) <<< ((6 : Int32) &&& 31))) ||| (p4 &&& (63 : Int32))), iv 65536, iv (if (contF p2) = (0 : Int32) then (0 : Int32) else (if (contF p3) = (0 : Int32) then (0 : Int32) else (if (contF p4) = (0 : Int32) then (0 : Int32) else (1 : Int32)))), .unset] [(.int 1)]))
                      refine Goes.on (fun t k => XS.goto XJ32.here hx rfl (pc0 := 235) (pc' := 239) rfl (hb hby d1_235) (by decide) (by decide) k) ?_
                      show Goes p e below QQ (TJ32.setTop (mkF m 239 #[iv p1, iv p2, iv p3, iv p4, iv p5, iv 4, iv (((((p1 &&& (7 : Int32)) <<< ((18 : Int32) &&& 31)) ||| ((p2 &&& (63 : Int32)) <<< ((12 : Int32) &&& 31))) ||| ((p3 &&& (63 : Int32)) <<< ((6 : Int32) &&& 31))) ||| (p4 &&& (63 : Int32))), iv 65536, iv (if (contF p2) = (0 : Int32) then (0 : Int32) else (if (contF p3) = (0 : Int32) then (0 : Int32) else (if (contF p4) = (0 : Int32) then (0 : Int32) else (1 : Int32)))), .unset] [(.int 1)]))
                      rw [(((if_neg hb35).trans ((if_neg hb36).trans ((if_neg hb37).trans ((if_pos hb38).trans rfl)))) : (if (if (contF p2) = (0 : Int32) then (0 : Int32) else (if (contF p3) = (0 : Int32) then (0 : Int32) else (if (contF p4) = (0 : Int32) then (0 : Int32) else (1 : Int32)))) = (0 : Int32) then (0 : Int32) else (if (((((p1 &&& (7 : Int32)) <<< ((18 : Int32) &&& 31)) ||| ((p2 &&& (63 : Int32)) <<< ((12 : Int32) &&& 31))) ||| ((p3 &&& (63 : Int32)) <<< ((6 : Int32) &&& 31))) ||| (p4 &&& (63 : Int32))) < (65536 : Int32) then (0 : Int32) else (if (1114111 : Int32) < (((((p1 &&& (7 : Int32)) <<< ((18 : Int32) &&& 31)) ||| ((p2 &&& (63 : Int32)) <<< ((12 : Int32) &&& 31))) ||| ((p3 &&& (63 : Int32)) <<< ((6 : Int32) &&& 31))) ||| (p4 &&& (63 : Int32))) then (0 : Int32) else (if (((((p1 &&& (7 : Int32)) <<< ((18 : Int32) &&& 31)) ||| ((p2 &&& (63 : Int32)) <<< ((12 : Int32) &&& 31))) ||| ((p3 &&& (63 : Int32)) <<< ((6 : Int32) &&& 31))) ||| (p4 &&& (63 : Int32))) < (55296 : Int32) then (1 : Int32) else (if (57343 : Int32) < (((((p1 &&& (7 : Int32)) <<< ((18 : Int32) &&& 31)) ||| ((p2 &&& (63 : Int32)) <<< ((12 : Int32) &&& 31))) ||| ((p3 &&& (63 : Int32)) <<< ((6 : Int32) &&& 31))) ||| (p4 &&& (63 : Int32))) then (1 : Int32) else (0 : Int32)))))) = (1 : Int32))] at J33
                      exact J33 _ _ XJ32 eJ32 NJ32
                    · refine Goes.on (fun t k => XS.icmpNo XJ32.here hx rfl (hb hby d1_224) rfl (flt hb38).1 k) ?_
                      show Goes p e below QQ (TJ32.setTop (mkF m 227 #[iv p1, iv p2, iv p3, iv p4, iv p5, iv 4, iv (((((p1 &&& (7 : Int32)) <<< ((18 : Int32) &&& 31)) ||| ((p2 &&& (63 : Int32)) <<< ((12 : Int32) &&& 31))) ||| ((p3 &&& (63 : Int32)) <<< ((6 : Int32) &&& 31))) ||| (p4 &&& (63 : Int32))), iv 65536, iv (if (contF p2) = (0 : Int32) then (0 : Int32) else (if (contF p3) = (0 : Int32) then (0 : Int32) else (if (contF p4) = (0 : Int32) then (0 : Int32) else (1 : Int32)))), .unset] []))
                      refine Goes.on (fun t k => XS.iload XJ32.here hx rfl (hb hby d1_227) rfl k) ?_
                      show Goes p e below QQ (TJ32.setTop (mkF m 229 #[iv p1, iv p2, iv p3, iv p4, iv p5, iv 4, iv (((((p1 &&& (7 : Int32)) <<< ((18 : Int32) &&& 31)) ||| ((p2 &&& (63 : Int32)) <<< ((12 : Int32) &&& 31))) ||| ((p3 &&& (63 : Int32)) <<< ((6 : Int32) &&& 31))) ||| (p4 &&& (63 : Int32))), iv 65536, iv (if (contF p2) = (0 : Int32) then (0 : Int32) else (if (contF p3) = (0 : Int32) then (0 : Int32) else (if (contF p4) = (0 : Int32) then (0 : Int32) else (1 : Int32)))), .unset] [(.int (((((p1 &&& (7 : Int32)) <<< ((18 : Int32) &&& 31)) ||| ((p2 &&& (63 : Int32)) <<< ((12 : Int32) &&& 31))) ||| ((p3 &&& (63 : Int32)) <<< ((6 : Int32) &&& 31))) ||| (p4 &&& (63 : Int32))))]))
                      refine Goes.on (fun t k => XJ32.ldcInt hx hown (mvT hZ (hw _ (List.mem_of_getElem? (i := 16) rfl))) (g := (mkF m 229 #[iv p1, iv p2, iv p3, iv p4, iv p5, iv 4, iv (((((p1 &&& (7 : Int32)) <<< ((18 : Int32) &&& 31)) ||| ((p2 &&& (63 : Int32)) <<< ((12 : Int32) &&& 31))) ||| ((p3 &&& (63 : Int32)) <<< ((6 : Int32) &&& 31))) ||| (p4 &&& (63 : Int32))), iv 65536, iv (if (contF p2) = (0 : Int32) then (0 : Int32) else (if (contF p3) = (0 : Int32) then (0 : Int32) else (if (contF p4) = (0 : Int32) then (0 : Int32) else (1 : Int32)))), .unset] [(.int (((((p1 &&& (7 : Int32)) <<< ((18 : Int32) &&& 31)) ||| ((p2 &&& (63 : Int32)) <<< ((12 : Int32) &&& 31))) ||| ((p3 &&& (63 : Int32)) <<< ((6 : Int32) &&& 31))) ||| (p4 &&& (63 : Int32))))])) rfl (hb hby d1_229) t k) ?_
                      show Goes p e below QQ (TJ32.setTop (mkF m 231 #[iv p1, iv p2, iv p3, iv p4, iv p5, iv 4, iv (((((p1 &&& (7 : Int32)) <<< ((18 : Int32) &&& 31)) ||| ((p2 &&& (63 : Int32)) <<< ((12 : Int32) &&& 31))) ||| ((p3 &&& (63 : Int32)) <<< ((6 : Int32) &&& 31))) ||| (p4 &&& (63 : Int32))), iv 65536, iv (if (contF p2) = (0 : Int32) then (0 : Int32) else (if (contF p3) = (0 : Int32) then (0 : Int32) else (if (contF p4) = (0 : Int32) then (0 : Int32) else (1 : Int32)))), .unset] [(.int 57343), (.int (((((p1 &&& (7 : Int32)) <<< ((18 : Int32) &&& 31)) ||| ((p2 &&& (63 : Int32)) <<< ((12 : Int32) &&& 31))) ||| ((p3 &&& (63 : Int32)) <<< ((6 : Int32) &&& 31))) ||| (p4 &&& (63 : Int32))))]))
                      by_cases hb39 : (57343 : Int32) < (((((p1 &&& (7 : Int32)) <<< ((18 : Int32) &&& 31)) ||| ((p2 &&& (63 : Int32)) <<< ((12 : Int32) &&& 31))) ||| ((p3 &&& (63 : Int32)) <<< ((6 : Int32) &&& 31))) ||| (p4 &&& (63 : Int32)))
                      · refine Goes.on (fun t k => XS.icmpNo XJ32.here hx rfl (hb hby d1_231) rfl (tlt hb39).2.2.2 k) ?_
                        show Goes p e below QQ (TJ32.setTop (mkF m 234 #[iv p1, iv p2, iv p3, iv p4, iv p5, iv 4, iv (((((p1 &&& (7 : Int32)) <<< ((18 : Int32) &&& 31)) ||| ((p2 &&& (63 : Int32)) <<< ((12 : Int32) &&& 31))) ||| ((p3 &&& (63 : Int32)) <<< ((6 : Int32) &&& 31))) ||| (p4 &&& (63 : Int32))), iv 65536, iv (if (contF p2) = (0 : Int32) then (0 : Int32) else (if (contF p3) = (0 : Int32) then (0 : Int32) else (if (contF p4) = (0 : Int32) then (0 : Int32) else (1 : Int32)))), .unset] []))
                        refine Goes.on (fun t k => XS.iconst XJ32.here hx rfl (hb hby d1_234) k) ?_
                        show Goes p e below QQ (TJ32.setTop (mkF m 235 #[iv p1, iv p2, iv p3, iv p4, iv p5, iv 4, iv (((((p1 &&& (7 : Int32)) <<< ((18 : Int32) &&& 31)) ||| ((p2 &&& (63 : Int32)) <<< ((12 : Int32) &&& 31))) ||| ((p3 &&& (63 : Int32)) <<< ((6 : Int32) &&& 31))) ||| (p4 &&& (63 : Int32))), iv 65536, iv (if (contF p2) = (0 : Int32) then (0 : Int32) else (if (contF p3) = (0 : Int32) then (0 : Int32) else (if (contF p4) = (0 : Int32) then (0 : Int32) else (1 : Int32)))), .unset] [(.int 1)]))
                        refine Goes.on (fun t k => XS.goto XJ32.here hx rfl (pc0 := 235) (pc' := 239) rfl (hb hby d1_235) (by decide) (by decide) k) ?_
                        show Goes p e below QQ (TJ32.setTop (mkF m 239 #[iv p1, iv p2, iv p3, iv p4, iv p5, iv 4, iv (((((p1 &&& (7 : Int32)) <<< ((18 : Int32) &&& 31)) ||| ((p2 &&& (63 : Int32)) <<< ((12 : Int32) &&& 31))) ||| ((p3 &&& (63 : Int32)) <<< ((6 : Int32) &&& 31))) ||| (p4 &&& (63 : Int32))), iv 65536, iv (if (contF p2) = (0 : Int32) then (0 : Int32) else (if (contF p3) = (0 : Int32) then (0 : Int32) else (if (contF p4) = (0 : Int32) then (0 : Int32) else (1 : Int32)))), .unset] [(.int 1)]))
                        rw [(((if_neg hb35).trans ((if_neg hb36).trans ((if_neg hb37).trans ((if_neg hb38).trans ((if_pos hb39).trans rfl))))) : (if (if (contF p2) = (0 : Int32) then (0 : Int32) else (if (contF p3) = (0 : Int32) then (0 : Int32) else (if (contF p4) = (0 : Int32) then (0 : Int32) else (1 : Int32)))) = (0 : Int32) then (0 : Int32) else (if (((((p1 &&& (7 : Int32)) <<< ((18 : Int32) &&& 31)) ||| ((p2 &&& (63 : Int32)) <<< ((12 : Int32) &&& 31))) ||| ((p3 &&& (63 : Int32)) <<< ((6 : Int32) &&& 31))) ||| (p4 &&& (63 : Int32))) < (65536 : Int32) then (0 : Int32) else (if (1114111 : Int32) < (((((p1 &&& (7 : Int32)) <<< ((18 : Int32) &&& 31)) ||| ((p2 &&& (63 : Int32)) <<< ((12 : Int32) &&& 31))) ||| ((p3 &&& (63 : Int32)) <<< ((6 : Int32) &&& 31))) ||| (p4 &&& (63 : Int32))) then (0 : Int32) else (if (((((p1 &&& (7 : Int32)) <<< ((18 : Int32) &&& 31)) ||| ((p2 &&& (63 : Int32)) <<< ((12 : Int32) &&& 31))) ||| ((p3 &&& (63 : Int32)) <<< ((6 : Int32) &&& 31))) ||| (p4 &&& (63 : Int32))) < (55296 : Int32) then (1 : Int32) else (if (57343 : Int32) < (((((p1 &&& (7 : Int32)) <<< ((18 : Int32) &&& 31)) ||| ((p2 &&& (63 : Int32)) <<< ((12 : Int32) &&& 31))) ||| ((p3 &&& (63 : Int32)) <<< ((6 : Int32) &&& 31))) ||| (p4 &&& (63 : Int32))) then (1 : Int32) else (0 : Int32)))))) = (1 : Int32))] at J33
                        exact J33 _ _ XJ32 eJ32 NJ32
                      · refine Goes.on (fun t k => XS.icmpYes XJ32.here hx rfl (pc0 := 231) (pc' := 238) rfl (hb hby d1_231) rfl (flt hb39).2.2.2 (by decide) (by decide) k) ?_
                        show Goes p e below QQ (TJ32.setTop (mkF m 238 #[iv p1, iv p2, iv p3, iv p4, iv p5, iv 4, iv (((((p1 &&& (7 : Int32)) <<< ((18 : Int32) &&& 31)) ||| ((p2 &&& (63 : Int32)) <<< ((12 : Int32) &&& 31))) ||| ((p3 &&& (63 : Int32)) <<< ((6 : Int32) &&& 31))) ||| (p4 &&& (63 : Int32))), iv 65536, iv (if (contF p2) = (0 : Int32) then (0 : Int32) else (if (contF p3) = (0 : Int32) then (0 : Int32) else (if (contF p4) = (0 : Int32) then (0 : Int32) else (1 : Int32)))), .unset] []))
                        refine Goes.on (fun t k => XS.iconst XJ32.here hx rfl (hb hby d1_238) k) ?_
                        show Goes p e below QQ (TJ32.setTop (mkF m 239 #[iv p1, iv p2, iv p3, iv p4, iv p5, iv 4, iv (((((p1 &&& (7 : Int32)) <<< ((18 : Int32) &&& 31)) ||| ((p2 &&& (63 : Int32)) <<< ((12 : Int32) &&& 31))) ||| ((p3 &&& (63 : Int32)) <<< ((6 : Int32) &&& 31))) ||| (p4 &&& (63 : Int32))), iv 65536, iv (if (contF p2) = (0 : Int32) then (0 : Int32) else (if (contF p3) = (0 : Int32) then (0 : Int32) else (if (contF p4) = (0 : Int32) then (0 : Int32) else (1 : Int32)))), .unset] [(.int 0)]))
                        rw [(((if_neg hb35).trans ((if_neg hb36).trans ((if_neg hb37).trans ((if_neg hb38).trans ((if_neg hb39).trans rfl))))) : (if (if (contF p2) = (0 : Int32) then (0 : Int32) else (if (contF p3) = (0 : Int32) then (0 : Int32) else (if (contF p4) = (0 : Int32) then (0 : Int32) else (1 : Int32)))) = (0 : Int32) then (0 : Int32) else (if (((((p1 &&& (7 : Int32)) <<< ((18 : Int32) &&& 31)) ||| ((p2 &&& (63 : Int32)) <<< ((12 : Int32) &&& 31))) ||| ((p3 &&& (63 : Int32)) <<< ((6 : Int32) &&& 31))) ||| (p4 &&& (63 : Int32))) < (65536 : Int32) then (0 : Int32) else (if (1114111 : Int32) < (((((p1 &&& (7 : Int32)) <<< ((18 : Int32) &&& 31)) ||| ((p2 &&& (63 : Int32)) <<< ((12 : Int32) &&& 31))) ||| ((p3 &&& (63 : Int32)) <<< ((6 : Int32) &&& 31))) ||| (p4 &&& (63 : Int32))) then (0 : Int32) else (if (((((p1 &&& (7 : Int32)) <<< ((18 : Int32) &&& 31)) ||| ((p2 &&& (63 : Int32)) <<< ((12 : Int32) &&& 31))) ||| ((p3 &&& (63 : Int32)) <<< ((6 : Int32) &&& 31))) ||| (p4 &&& (63 : Int32))) < (55296 : Int32) then (1 : Int32) else (if (57343 : Int32) < (((((p1 &&& (7 : Int32)) <<< ((18 : Int32) &&& 31)) ||| ((p2 &&& (63 : Int32)) <<< ((12 : Int32) &&& 31))) ||| ((p3 &&& (63 : Int32)) <<< ((6 : Int32) &&& 31))) ||| (p4 &&& (63 : Int32))) then (1 : Int32) else (0 : Int32)))))) = (0 : Int32))] at J33
                        exact J33 _ _ XJ32 eJ32 NJ32
            show Goes p e below QQ (T31.setTop (mkF m 165 #[iv p1, iv p2, iv p3, iv p4, iv p5, iv 4, iv (((((p1 &&& (7 : Int32)) <<< ((18 : Int32) &&& 31)) ||| ((p2 &&& (63 : Int32)) <<< ((12 : Int32) &&& 31))) ||| ((p3 &&& (63 : Int32)) <<< ((6 : Int32) &&& 31))) ||| (p4 &&& (63 : Int32))), iv 65536, .unset, .unset] [(.int (contF p2))]))
            by_cases hb40 : (contF p2) = (0 : Int32)
            · refine Goes.on (fun t k => XS.ifYes X31.here hx rfl (pc0 := 165) (pc' := 198) rfl (hb hby d1_165) rfl ((if0 _ _).trans (teq hb40).1) (by decide) (by decide) k) ?_
              show Goes p e below QQ (T31.setTop (mkF m 198 #[iv p1, iv p2, iv p3, iv p4, iv p5, iv 4, iv (((((p1 &&& (7 : Int32)) <<< ((18 : Int32) &&& 31)) ||| ((p2 &&& (63 : Int32)) <<< ((12 : Int32) &&& 31))) ||| ((p3 &&& (63 : Int32)) <<< ((6 : Int32) &&& 31))) ||| (p4 &&& (63 : Int32))), iv 65536, .unset, .unset] []))
              refine Goes.on (fun t k => XS.iconst X31.here hx rfl (hb hby d1_198) k) ?_
              show Goes p e below QQ (T31.setTop (mkF m 199 #[iv p1, iv p2, iv p3, iv p4, iv p5, iv 4, iv (((((p1 &&& (7 : Int32)) <<< ((18 : Int32) &&& 31)) ||| ((p2 &&& (63 : Int32)) <<< ((12 : Int32) &&& 31))) ||| ((p3 &&& (63 : Int32)) <<< ((6 : Int32) &&& 31))) ||| (p4 &&& (63 : Int32))), iv 65536, .unset, .unset] [(.int 0)]))
              rw [(((if_pos hb40).trans rfl) : (if (contF p2) = (0 : Int32) then (0 : Int32) else (if (contF p3) = (0 : Int32) then (0 : Int32) else (if (contF p4) = (0 : Int32) then (0 : Int32) else (1 : Int32)))) = (0 : Int32))] at J32
              exact J32 _ _ X31 e31 N31
            · refine Goes.on (fun t k => XS.ifNo X31.here hx rfl (hb hby d1_165) rfl ((if0 _ _).trans (feq hb40).1) k) ?_
              show Goes p e below QQ (T31.setTop (mkF m 168 #[iv p1, iv p2, iv p3, iv p4, iv p5, iv 4, iv (((((p1 &&& (7 : Int32)) <<< ((18 : Int32) &&& 31)) ||| ((p2 &&& (63 : Int32)) <<< ((12 : Int32) &&& 31))) ||| ((p3 &&& (63 : Int32)) <<< ((6 : Int32) &&& 31))) ||| (p4 &&& (63 : Int32))), iv 65536, .unset, .unset] []))
              refine Goes.on (fun t k => XS.iload X31.here hx rfl (hb hby d1_168) rfl k) ?_
              show Goes p e below QQ (T31.setTop (mkF m 170 #[iv p1, iv p2, iv p3, iv p4, iv p5, iv 4, iv (((((p1 &&& (7 : Int32)) <<< ((18 : Int32) &&& 31)) ||| ((p2 &&& (63 : Int32)) <<< ((12 : Int32) &&& 31))) ||| ((p3 &&& (63 : Int32)) <<< ((6 : Int32) &&& 31))) ||| (p4 &&& (63 : Int32))), iv 65536, .unset, .unset] [(.int 4)]))
              refine Goes.on (fun t k => XS.iconst X31.here hx rfl (hb hby d1_170) k) ?_
              show Goes p e below QQ (T31.setTop (mkF m 171 #[iv p1, iv p2, iv p3, iv p4, iv p5, iv 4, iv (((((p1 &&& (7 : Int32)) <<< ((18 : Int32) &&& 31)) ||| ((p2 &&& (63 : Int32)) <<< ((12 : Int32) &&& 31))) ||| ((p3 &&& (63 : Int32)) <<< ((6 : Int32) &&& 31))) ||| (p4 &&& (63 : Int32))), iv 65536, .unset, .unset] [(.int 3), (.int 4)]))
              refine Goes.on (fun t k => XS.icmpNo X31.here hx rfl (hb hby d1_171) rfl (flt (by decide)).1 k) ?_
              show Goes p e below QQ (T31.setTop (mkF m 174 #[iv p1, iv p2, iv p3, iv p4, iv p5, iv 4, iv (((((p1 &&& (7 : Int32)) <<< ((18 : Int32) &&& 31)) ||| ((p2 &&& (63 : Int32)) <<< ((12 : Int32) &&& 31))) ||| ((p3 &&& (63 : Int32)) <<< ((6 : Int32) &&& 31))) ||| (p4 &&& (63 : Int32))), iv 65536, .unset, .unset] []))
              refine Goes.on (fun t k => XS.iloadN X31.here hx rfl (hb hby d1_174) rfl k) ?_
              show Goes p e below QQ (T31.setTop (mkF m 175 #[iv p1, iv p2, iv p3, iv p4, iv p5, iv 4, iv (((((p1 &&& (7 : Int32)) <<< ((18 : Int32) &&& 31)) ||| ((p2 &&& (63 : Int32)) <<< ((12 : Int32) &&& 31))) ||| ((p3 &&& (63 : Int32)) <<< ((6 : Int32) &&& 31))) ||| (p4 &&& (63 : Int32))), iv 65536, .unset, .unset] [(.int p3)]))
              obtain ⟨_, _, ⟨T41, L41, k41, n41⟩, -, X41, ⟨Lc41, hQ41, l41, y41, z41⟩, st41⟩ := Jvm.LawKit.callS X31 hx (y := (⟨"com/example/sober_links/soberlinks/io/Utf8SequenceLengthPinLaw", "cont", "(I)Z"⟩ : MethodName)) hown (mvT hZ (hw _ (List.mem_of_getElem? (i := 10) rfl))) (mvT hZ (hw _ (List.mem_of_getElem? (i := 11) rfl))) (mvT hZ (hw _ (List.mem_of_getElem? (i := 4) rfl))) (mvT hZ (hw _ (List.mem_of_getElem? (i := 12) rfl))) (by decide) (backOf (W := 0) (rm1 l Z a0 hw [] p3 h0 n0 (Nat.le_trans Z0 K0.1) ) hZ (hw _ (List.mem_of_getElem? (i := 12) rfl)) (hw _ (List.mem_of_getElem? (i := 4) rfl)) (by decide) (by decide)) (g := (mkF m 175 #[iv p1, iv p2, iv p3, iv p4, iv p5, iv 4, iv (((((p1 &&& (7 : Int32)) <<< ((18 : Int32) &&& 31)) ||| ((p2 &&& (63 : Int32)) <<< ((12 : Int32) &&& 31))) ||| ((p3 &&& (63 : Int32)) <<< ((6 : Int32) &&& 31))) ||| (p4 &&& (63 : Int32))), iv 65536, .unset, .unset] [(.int p3)])) rfl (by rw [hml]; rfl) (argsL := [(.int p3)]) (rest := []) (lenOf pd_0 rfl) rfl (by show 2 * 0 + _ ≤ _; exact Nat.le_of_eq rfl) (hb hby d1_175) (fun _ _ => ⟨rfl, e31, (by decide : 0 + 0 ≤ _), (by decide : 0 + 0 ≤ _)⟩)
              dsimp only [Pt.U, Pt.locs, Pt.cells, Pt.slots] at X41 l41 y41 z41 st41 hQ41
              subst l41 y41 z41
              obtain ⟨rfl, M41, e41⟩ := hQ41
              have N41 := Fr.app N31 M41
              refine Goes.on (fun t k => st41 _ k) ?_
              show Goes p e below QQ (T41.setTop (mkF m 178 #[iv p1, iv p2, iv p3, iv p4, iv p5, iv 4, iv (((((p1 &&& (7 : Int32)) <<< ((18 : Int32) &&& 31)) ||| ((p2 &&& (63 : Int32)) <<< ((12 : Int32) &&& 31))) ||| ((p3 &&& (63 : Int32)) <<< ((6 : Int32) &&& 31))) ||| (p4 &&& (63 : Int32))), iv 65536, .unset, .unset] [(.int (contF p3))]))
              by_cases hb42 : (contF p3) = (0 : Int32)
              · refine Goes.on (fun t k => XS.ifYes X41.here hx rfl (pc0 := 178) (pc' := 198) rfl (hb hby d1_178) rfl ((if0 _ _).trans (teq hb42).1) (by decide) (by decide) k) ?_
                show Goes p e below QQ (T41.setTop (mkF m 198 #[iv p1, iv p2, iv p3, iv p4, iv p5, iv 4, iv (((((p1 &&& (7 : Int32)) <<< ((18 : Int32) &&& 31)) ||| ((p2 &&& (63 : Int32)) <<< ((12 : Int32) &&& 31))) ||| ((p3 &&& (63 : Int32)) <<< ((6 : Int32) &&& 31))) ||| (p4 &&& (63 : Int32))), iv 65536, .unset, .unset] []))
                refine Goes.on (fun t k => XS.iconst X41.here hx rfl (hb hby d1_198) k) ?_
                show Goes p e below QQ (T41.setTop (mkF m 199 #[iv p1, iv p2, iv p3, iv p4, iv p5, iv 4, iv (((((p1 &&& (7 : Int32)) <<< ((18 : Int32) &&& 31)) ||| ((p2 &&& (63 : Int32)) <<< ((12 : Int32) &&& 31))) ||| ((p3 &&& (63 : Int32)) <<< ((6 : Int32) &&& 31))) ||| (p4 &&& (63 : Int32))), iv 65536, .unset, .unset] [(.int 0)]))
                rw [(((if_neg hb40).trans ((if_pos hb42).trans rfl)) : (if (contF p2) = (0 : Int32) then (0 : Int32) else (if (contF p3) = (0 : Int32) then (0 : Int32) else (if (contF p4) = (0 : Int32) then (0 : Int32) else (1 : Int32)))) = (0 : Int32))] at J32
                exact J32 _ _ X41 e41 N41
              · refine Goes.on (fun t k => XS.ifNo X41.here hx rfl (hb hby d1_178) rfl ((if0 _ _).trans (feq hb42).1) k) ?_
                show Goes p e below QQ (T41.setTop (mkF m 181 #[iv p1, iv p2, iv p3, iv p4, iv p5, iv 4, iv (((((p1 &&& (7 : Int32)) <<< ((18 : Int32) &&& 31)) ||| ((p2 &&& (63 : Int32)) <<< ((12 : Int32) &&& 31))) ||| ((p3 &&& (63 : Int32)) <<< ((6 : Int32) &&& 31))) ||| (p4 &&& (63 : Int32))), iv 65536, .unset, .unset] []))
                refine Goes.on (fun t k => XS.iload X41.here hx rfl (hb hby d1_181) rfl k) ?_
                show Goes p e below QQ (T41.setTop (mkF m 183 #[iv p1, iv p2, iv p3, iv p4, iv p5, iv 4, iv (((((p1 &&& (7 : Int32)) <<< ((18 : Int32) &&& 31)) ||| ((p2 &&& (63 : Int32)) <<< ((12 : Int32) &&& 31))) ||| ((p3 &&& (63 : Int32)) <<< ((6 : Int32) &&& 31))) ||| (p4 &&& (63 : Int32))), iv 65536, .unset, .unset] [(.int 4)]))
                refine Goes.on (fun t k => XS.iconst X41.here hx rfl (hb hby d1_183) k) ?_
                show Goes p e below QQ (T41.setTop (mkF m 184 #[iv p1, iv p2, iv p3, iv p4, iv p5, iv 4, iv (((((p1 &&& (7 : Int32)) <<< ((18 : Int32) &&& 31)) ||| ((p2 &&& (63 : Int32)) <<< ((12 : Int32) &&& 31))) ||| ((p3 &&& (63 : Int32)) <<< ((6 : Int32) &&& 31))) ||| (p4 &&& (63 : Int32))), iv 65536, .unset, .unset] [(.int 4), (.int 4)]))
                refine Goes.on (fun t k => XS.icmpNo X41.here hx rfl (hb hby d1_184) rfl (flt (by decide)).1 k) ?_
                show Goes p e below QQ (T41.setTop (mkF m 187 #[iv p1, iv p2, iv p3, iv p4, iv p5, iv 4, iv (((((p1 &&& (7 : Int32)) <<< ((18 : Int32) &&& 31)) ||| ((p2 &&& (63 : Int32)) <<< ((12 : Int32) &&& 31))) ||| ((p3 &&& (63 : Int32)) <<< ((6 : Int32) &&& 31))) ||| (p4 &&& (63 : Int32))), iv 65536, .unset, .unset] []))
                refine Goes.on (fun t k => XS.iloadN X41.here hx rfl (hb hby d1_187) rfl k) ?_
                show Goes p e below QQ (T41.setTop (mkF m 188 #[iv p1, iv p2, iv p3, iv p4, iv p5, iv 4, iv (((((p1 &&& (7 : Int32)) <<< ((18 : Int32) &&& 31)) ||| ((p2 &&& (63 : Int32)) <<< ((12 : Int32) &&& 31))) ||| ((p3 &&& (63 : Int32)) <<< ((6 : Int32) &&& 31))) ||| (p4 &&& (63 : Int32))), iv 65536, .unset, .unset] [(.int p4)]))
                obtain ⟨_, _, ⟨T43, L43, k43, n43⟩, -, X43, ⟨Lc43, hQ43, l43, y43, z43⟩, st43⟩ := Jvm.LawKit.callS X41 hx (y := (⟨"com/example/sober_links/soberlinks/io/Utf8SequenceLengthPinLaw", "cont", "(I)Z"⟩ : MethodName)) hown (mvT hZ (hw _ (List.mem_of_getElem? (i := 10) rfl))) (mvT hZ (hw _ (List.mem_of_getElem? (i := 11) rfl))) (mvT hZ (hw _ (List.mem_of_getElem? (i := 4) rfl))) (mvT hZ (hw _ (List.mem_of_getElem? (i := 12) rfl))) (by decide) (backOf (W := 0) (rm1 l Z a0 hw [] p4 h0 n0 (Nat.le_trans Z0 K0.1) ) hZ (hw _ (List.mem_of_getElem? (i := 12) rfl)) (hw _ (List.mem_of_getElem? (i := 4) rfl)) (by decide) (by decide)) (g := (mkF m 188 #[iv p1, iv p2, iv p3, iv p4, iv p5, iv 4, iv (((((p1 &&& (7 : Int32)) <<< ((18 : Int32) &&& 31)) ||| ((p2 &&& (63 : Int32)) <<< ((12 : Int32) &&& 31))) ||| ((p3 &&& (63 : Int32)) <<< ((6 : Int32) &&& 31))) ||| (p4 &&& (63 : Int32))), iv 65536, .unset, .unset] [(.int p4)])) rfl (by rw [hml]; rfl) (argsL := [(.int p4)]) (rest := []) (lenOf pd_0 rfl) rfl (by show 2 * 0 + _ ≤ _; exact Nat.le_of_eq rfl) (hb hby d1_188) (fun _ _ => ⟨rfl, e41, (by decide : 0 + 0 ≤ _), (by decide : 0 + 0 ≤ _)⟩)
                dsimp only [Pt.U, Pt.locs, Pt.cells, Pt.slots] at X43 l43 y43 z43 st43 hQ43
                subst l43 y43 z43
                obtain ⟨rfl, M43, e43⟩ := hQ43
                have N43 := Fr.app N41 M43
                refine Goes.on (fun t k => st43 _ k) ?_
                show Goes p e below QQ (T43.setTop (mkF m 191 #[iv p1, iv p2, iv p3, iv p4, iv p5, iv 4, iv (((((p1 &&& (7 : Int32)) <<< ((18 : Int32) &&& 31)) ||| ((p2 &&& (63 : Int32)) <<< ((12 : Int32) &&& 31))) ||| ((p3 &&& (63 : Int32)) <<< ((6 : Int32) &&& 31))) ||| (p4 &&& (63 : Int32))), iv 65536, .unset, .unset] [(.int (contF p4))]))
                by_cases hb44 : (contF p4) = (0 : Int32)
                · refine Goes.on (fun t k => XS.ifYes X43.here hx rfl (pc0 := 191) (pc' := 198) rfl (hb hby d1_191) rfl ((if0 _ _).trans (teq hb44).1) (by decide) (by decide) k) ?_
                  show Goes p e below QQ (T43.setTop (mkF m 198 #[iv p1, iv p2, iv p3, iv p4, iv p5, iv 4, iv (((((p1 &&& (7 : Int32)) <<< ((18 : Int32) &&& 31)) ||| ((p2 &&& (63 : Int32)) <<< ((12 : Int32) &&& 31))) ||| ((p3 &&& (63 : Int32)) <<< ((6 : Int32) &&& 31))) ||| (p4 &&& (63 : Int32))), iv 65536, .unset, .unset] []))
                  refine Goes.on (fun t k => XS.iconst X43.here hx rfl (hb hby d1_198) k) ?_
                  show Goes p e below QQ (T43.setTop (mkF m 199 #[iv p1, iv p2, iv p3, iv p4, iv p5, iv 4, iv (((((p1 &&& (7 : Int32)) <<< ((18 : Int32) &&& 31)) ||| ((p2 &&& (63 : Int32)) <<< ((12 : Int32) &&& 31))) ||| ((p3 &&& (63 : Int32)) <<< ((6 : Int32) &&& 31))) ||| (p4 &&& (63 : Int32))), iv 65536, .unset, .unset] [(.int 0)]))
                  rw [(((if_neg hb40).trans ((if_neg hb42).trans ((if_pos hb44).trans rfl))) : (if (contF p2) = (0 : Int32) then (0 : Int32) else (if (contF p3) = (0 : Int32) then (0 : Int32) else (if (contF p4) = (0 : Int32) then (0 : Int32) else (1 : Int32)))) = (0 : Int32))] at J32
                  exact J32 _ _ X43 e43 N43
                · refine Goes.on (fun t k => XS.ifNo X43.here hx rfl (hb hby d1_191) rfl ((if0 _ _).trans (feq hb44).1) k) ?_
                  show Goes p e below QQ (T43.setTop (mkF m 194 #[iv p1, iv p2, iv p3, iv p4, iv p5, iv 4, iv (((((p1 &&& (7 : Int32)) <<< ((18 : Int32) &&& 31)) ||| ((p2 &&& (63 : Int32)) <<< ((12 : Int32) &&& 31))) ||| ((p3 &&& (63 : Int32)) <<< ((6 : Int32) &&& 31))) ||| (p4 &&& (63 : Int32))), iv 65536, .unset, .unset] []))
                  refine Goes.on (fun t k => XS.iconst X43.here hx rfl (hb hby d1_194) k) ?_
                  show Goes p e below QQ (T43.setTop (mkF m 195 #[iv p1, iv p2, iv p3, iv p4, iv p5, iv 4, iv (((((p1 &&& (7 : Int32)) <<< ((18 : Int32) &&& 31)) ||| ((p2 &&& (63 : Int32)) <<< ((12 : Int32) &&& 31))) ||| ((p3 &&& (63 : Int32)) <<< ((6 : Int32) &&& 31))) ||| (p4 &&& (63 : Int32))), iv 65536, .unset, .unset] [(.int 1)]))
                  refine Goes.on (fun t k => XS.goto X43.here hx rfl (pc0 := 195) (pc' := 199) rfl (hb hby d1_195) (by decide) (by decide) k) ?_
                  show Goes p e below QQ (T43.setTop (mkF m 199 #[iv p1, iv p2, iv p3, iv p4, iv p5, iv 4, iv (((((p1 &&& (7 : Int32)) <<< ((18 : Int32) &&& 31)) ||| ((p2 &&& (63 : Int32)) <<< ((12 : Int32) &&& 31))) ||| ((p3 &&& (63 : Int32)) <<< ((6 : Int32) &&& 31))) ||| (p4 &&& (63 : Int32))), iv 65536, .unset, .unset] [(.int 1)]))
                  rw [(((if_neg hb40).trans ((if_neg hb42).trans ((if_neg hb44).trans rfl))) : (if (contF p2) = (0 : Int32) then (0 : Int32) else (if (contF p3) = (0 : Int32) then (0 : Int32) else (if (contF p4) = (0 : Int32) then (0 : Int32) else (1 : Int32)))) = (1 : Int32))] at J32
                  exact J32 _ _ X43 e43 N43
        · refine Goes.on (fun t k => XS.icmpYes X0.here hx rfl (pc0 := 107) (pc' := 150) rfl (hb hby d1_107) rfl (feq hb29).2 (by decide) (by decide) k) ?_
          show Goes p e below QQ (s₁.setTop (mkF m 150 #[iv p1, iv p2, iv p3, iv p4, iv p5, .unset, .unset, .unset, .unset, .unset] []))
          refine Goes.on (fun t k => XS.iconst X0.here hx rfl (hb hby d1_150) k) ?_
          show Goes p e below QQ (s₁.setTop (mkF m 151 #[iv p1, iv p2, iv p3, iv p4, iv p5, .unset, .unset, .unset, .unset, .unset] [(.int 0)]))
          exact Goes.rI X0 hx hret hlk (hb hby d1_151) hQQ ⟨congrArg (fun z => some (Value.int z)) (((if_neg hb1).trans ((if_neg hb3).trans ((if_neg hb15).trans ((if_neg hb29).trans rfl)))) : (expF p1 p2 p3 p4 p5) = (0 : Int32)).symm, N0, e0⟩ (by decide) (by decide)
theorem d2_0 : decode prog_93_method_3_code 0 = .ok (.aload_n 0, 1) := by decide +kernel
theorem d2_1 : decode prog_93_method_3_code 1 = .ok (.iload_n 1, 1) := by decide +kernel
theorem d2_2 : decode prog_93_method_3_code 2 = .ok (.baload, 1) := by decide +kernel
theorem d2_3 : decode prog_93_method_3_code 3 = .ok (.sipush 255, 3) := by decide +kernel
theorem d2_6 : decode prog_93_method_3_code 6 = .ok (.iand, 1) := by decide +kernel
theorem d2_7 : decode prog_93_method_3_code 7 = .ok (.istore_n 3, 1) := by decide +kernel
theorem d2_8 : decode prog_93_method_3_code 8 = .ok (.sipush 128, 3) := by decide +kernel
theorem d2_11 : decode prog_93_method_3_code 11 = .ok (.istore 5, 2) := by decide +kernel
theorem d2_13 : decode prog_93_method_3_code 13 = .ok (.sipush 191, 3) := by decide +kernel
theorem d2_16 : decode prog_93_method_3_code 16 = .ok (.istore 6, 2) := by decide +kernel
theorem d2_18 : decode prog_93_method_3_code 18 = .ok (.iload_n 3, 1) := by decide +kernel
theorem d2_19 : decode prog_93_method_3_code 19 = .ok (.sipush 128, 3) := by decide +kernel
theorem d2_22 : decode prog_93_method_3_code 22 = .ok (.if_icmp .ge 9, 3) := by decide +kernel
theorem d2_25 : decode prog_93_method_3_code 25 = .ok (.iconst 1, 1) := by decide +kernel
theorem d2_26 : decode prog_93_method_3_code 26 = .ok (.istore 4, 2) := by decide +kernel
theorem d2_28 : decode prog_93_method_3_code 28 = .ok (.goto 126, 3) := by decide +kernel
theorem d2_31 : decode prog_93_method_3_code 31 = .ok (.iload_n 3, 1) := by decide +kernel
theorem d2_32 : decode prog_93_method_3_code 32 = .ok (.sipush 194, 3) := by decide +kernel
theorem d2_35 : decode prog_93_method_3_code 35 = .ok (.if_icmp .ge 9, 3) := by decide +kernel
theorem d2_38 : decode prog_93_method_3_code 38 = .ok (.iconst 0, 1) := by decide +kernel
theorem d2_39 : decode prog_93_method_3_code 39 = .ok (.istore 4, 2) := by decide +kernel
theorem d2_41 : decode prog_93_method_3_code 41 = .ok (.goto 113, 3) := by decide +kernel
theorem d2_44 : decode prog_93_method_3_code 44 = .ok (.iload_n 3, 1) := by decide +kernel
theorem d2_45 : decode prog_93_method_3_code 45 = .ok (.sipush 224, 3) := by decide +kernel
theorem d2_48 : decode prog_93_method_3_code 48 = .ok (.if_icmp .ge 9, 3) := by decide +kernel
theorem d2_51 : decode prog_93_method_3_code 51 = .ok (.iconst 2, 1) := by decide +kernel
theorem d2_52 : decode prog_93_method_3_code 52 = .ok (.istore 4, 2) := by decide +kernel
theorem d2_54 : decode prog_93_method_3_code 54 = .ok (.goto 100, 3) := by decide +kernel
theorem d2_57 : decode prog_93_method_3_code 57 = .ok (.iload_n 3, 1) := by decide +kernel
theorem d2_58 : decode prog_93_method_3_code 58 = .ok (.sipush 240, 3) := by decide +kernel
theorem d2_61 : decode prog_93_method_3_code 61 = .ok (.if_icmp .ge 43, 3) := by decide +kernel
theorem d2_64 : decode prog_93_method_3_code 64 = .ok (.iconst 3, 1) := by decide +kernel
theorem d2_65 : decode prog_93_method_3_code 65 = .ok (.istore 4, 2) := by decide +kernel
theorem d2_67 : decode prog_93_method_3_code 67 = .ok (.iload_n 3, 1) := by decide +kernel
theorem d2_68 : decode prog_93_method_3_code 68 = .ok (.sipush 224, 3) := by decide +kernel
theorem d2_71 : decode prog_93_method_3_code 71 = .ok (.if_icmp .ne 9, 3) := by decide +kernel
theorem d2_74 : decode prog_93_method_3_code 74 = .ok (.sipush 160, 3) := by decide +kernel
theorem d2_77 : decode prog_93_method_3_code 77 = .ok (.goto 5, 3) := by decide +kernel
theorem d2_80 : decode prog_93_method_3_code 80 = .ok (.iload 5, 2) := by decide +kernel
theorem d2_82 : decode prog_93_method_3_code 82 = .ok (.istore 5, 2) := by decide +kernel
theorem d2_84 : decode prog_93_method_3_code 84 = .ok (.iload_n 3, 1) := by decide +kernel
theorem d2_85 : decode prog_93_method_3_code 85 = .ok (.sipush 237, 3) := by decide +kernel
theorem d2_88 : decode prog_93_method_3_code 88 = .ok (.if_icmp .ne 9, 3) := by decide +kernel
theorem d2_91 : decode prog_93_method_3_code 91 = .ok (.sipush 159, 3) := by decide +kernel
theorem d2_94 : decode prog_93_method_3_code 94 = .ok (.goto 5, 3) := by decide +kernel
theorem d2_97 : decode prog_93_method_3_code 97 = .ok (.iload 6, 2) := by decide +kernel
theorem d2_99 : decode prog_93_method_3_code 99 = .ok (.istore 6, 2) := by decide +kernel
theorem d2_101 : decode prog_93_method_3_code 101 = .ok (.goto 53, 3) := by decide +kernel
theorem d2_104 : decode prog_93_method_3_code 104 = .ok (.iload_n 3, 1) := by decide +kernel
theorem d2_105 : decode prog_93_method_3_code 105 = .ok (.sipush 245, 3) := by decide +kernel
theorem d2_108 : decode prog_93_method_3_code 108 = .ok (.if_icmp .ge 43, 3) := by decide +kernel
theorem d2_111 : decode prog_93_method_3_code 111 = .ok (.iconst 4, 1) := by decide +kernel
theorem d2_112 : decode prog_93_method_3_code 112 = .ok (.istore 4, 2) := by decide +kernel
theorem d2_114 : decode prog_93_method_3_code 114 = .ok (.iload_n 3, 1) := by decide +kernel
theorem d2_115 : decode prog_93_method_3_code 115 = .ok (.sipush 240, 3) := by decide +kernel
theorem d2_118 : decode prog_93_method_3_code 118 = .ok (.if_icmp .ne 9, 3) := by decide +kernel
theorem d2_121 : decode prog_93_method_3_code 121 = .ok (.sipush 144, 3) := by decide +kernel
theorem d2_124 : decode prog_93_method_3_code 124 = .ok (.goto 5, 3) := by decide +kernel
theorem d2_127 : decode prog_93_method_3_code 127 = .ok (.iload 5, 2) := by decide +kernel
theorem d2_129 : decode prog_93_method_3_code 129 = .ok (.istore 5, 2) := by decide +kernel
theorem d2_131 : decode prog_93_method_3_code 131 = .ok (.iload_n 3, 1) := by decide +kernel
theorem d2_132 : decode prog_93_method_3_code 132 = .ok (.sipush 244, 3) := by decide +kernel
theorem d2_135 : decode prog_93_method_3_code 135 = .ok (.if_icmp .ne 9, 3) := by decide +kernel
theorem d2_138 : decode prog_93_method_3_code 138 = .ok (.sipush 143, 3) := by decide +kernel
theorem d2_141 : decode prog_93_method_3_code 141 = .ok (.goto 5, 3) := by decide +kernel
theorem d2_144 : decode prog_93_method_3_code 144 = .ok (.iload 6, 2) := by decide +kernel
theorem d2_146 : decode prog_93_method_3_code 146 = .ok (.istore 6, 2) := by decide +kernel
theorem d2_148 : decode prog_93_method_3_code 148 = .ok (.goto 6, 3) := by decide +kernel
theorem d2_151 : decode prog_93_method_3_code 151 = .ok (.iconst 0, 1) := by decide +kernel
theorem d2_152 : decode prog_93_method_3_code 152 = .ok (.istore 4, 2) := by decide +kernel
theorem d2_154 : decode prog_93_method_3_code 154 = .ok (.iload 4, 2) := by decide +kernel
theorem d2_156 : decode prog_93_method_3_code 156 = .ok (.ifCond .le 15, 3) := by decide +kernel
theorem d2_159 : decode prog_93_method_3_code 159 = .ok (.iload_n 1, 1) := by decide +kernel
theorem d2_160 : decode prog_93_method_3_code 160 = .ok (.iload 4, 2) := by decide +kernel
theorem d2_162 : decode prog_93_method_3_code 162 = .ok (.iadd, 1) := by decide +kernel
theorem d2_163 : decode prog_93_method_3_code 163 = .ok (.iload_n 2, 1) := by decide +kernel
theorem d2_164 : decode prog_93_method_3_code 164 = .ok (.if_icmp .gt 7, 3) := by decide +kernel
theorem d2_167 : decode prog_93_method_3_code 167 = .ok (.iconst 1, 1) := by decide +kernel
theorem d2_168 : decode prog_93_method_3_code 168 = .ok (.goto 4, 3) := by decide +kernel
theorem d2_171 : decode prog_93_method_3_code 171 = .ok (.iconst 0, 1) := by decide +kernel
theorem d2_172 : decode prog_93_method_3_code 172 = .ok (.istore 7, 2) := by decide +kernel
theorem d2_174 : decode prog_93_method_3_code 174 = .ok (.iconst 1, 1) := by decide +kernel
theorem d2_175 : decode prog_93_method_3_code 175 = .ok (.istore 8, 2) := by decide +kernel
theorem d2_177 : decode prog_93_method_3_code 177 = .ok (.iload 7, 2) := by decide +kernel
theorem d2_179 : decode prog_93_method_3_code 179 = .ok (.ifCond .eq 59, 3) := by decide +kernel
theorem d2_182 : decode prog_93_method_3_code 182 = .ok (.iload 8, 2) := by decide +kernel
theorem d2_184 : decode prog_93_method_3_code 184 = .ok (.iload 4, 2) := by decide +kernel
theorem d2_186 : decode prog_93_method_3_code 186 = .ok (.if_icmp .ge 52, 3) := by decide +kernel
theorem d2_189 : decode prog_93_method_3_code 189 = .ok (.aload_n 0, 1) := by decide +kernel
theorem d2_190 : decode prog_93_method_3_code 190 = .ok (.iload_n 1, 1) := by decide +kernel
theorem d2_191 : decode prog_93_method_3_code 191 = .ok (.iload 8, 2) := by decide +kernel
theorem d2_193 : decode prog_93_method_3_code 193 = .ok (.iadd, 1) := by decide +kernel
theorem d2_194 : decode prog_93_method_3_code 194 = .ok (.baload, 1) := by decide +kernel
theorem d2_195 : decode prog_93_method_3_code 195 = .ok (.sipush 255, 3) := by decide +kernel
theorem d2_198 : decode prog_93_method_3_code 198 = .ok (.iand, 1) := by decide +kernel
theorem d2_199 : decode prog_93_method_3_code 199 = .ok (.istore 9, 2) := by decide +kernel
theorem d2_201 : decode prog_93_method_3_code 201 = .ok (.iload 9, 2) := by decide +kernel
theorem d2_203 : decode prog_93_method_3_code 203 = .ok (.iload 5, 2) := by decide +kernel
theorem d2_205 : decode prog_93_method_3_code 205 = .ok (.if_icmp .lt 14, 3) := by decide +kernel
theorem d2_208 : decode prog_93_method_3_code 208 = .ok (.iload 9, 2) := by decide +kernel
theorem d2_210 : decode prog_93_method_3_code 210 = .ok (.iload 6, 2) := by decide +kernel
theorem d2_212 : decode prog_93_method_3_code 212 = .ok (.if_icmp .gt 7, 3) := by decide +kernel
theorem d2_215 : decode prog_93_method_3_code 215 = .ok (.iconst 1, 1) := by decide +kernel
theorem d2_216 : decode prog_93_method_3_code 216 = .ok (.goto 4, 3) := by decide +kernel
theorem d2_219 : decode prog_93_method_3_code 219 = .ok (.iconst 0, 1) := by decide +kernel
theorem d2_220 : decode prog_93_method_3_code 220 = .ok (.istore 7, 2) := by decide +kernel
theorem d2_222 : decode prog_93_method_3_code 222 = .ok (.sipush 128, 3) := by decide +kernel
theorem d2_225 : decode prog_93_method_3_code 225 = .ok (.istore 5, 2) := by decide +kernel
theorem d2_227 : decode prog_93_method_3_code 227 = .ok (.sipush 191, 3) := by decide +kernel
theorem d2_230 : decode prog_93_method_3_code 230 = .ok (.istore 6, 2) := by decide +kernel
theorem d2_232 : decode prog_93_method_3_code 232 = .ok (.iinc 8 1, 3) := by decide +kernel
theorem d2_235 : decode prog_93_method_3_code 235 = .ok (.goto (-58), 3) := by decide +kernel
theorem d2_238 : decode prog_93_method_3_code 238 = .ok (.iload 7, 2) := by decide +kernel
theorem d2_240 : decode prog_93_method_3_code 240 = .ok (.ifCond .eq 8, 3) := by decide +kernel
theorem d2_243 : decode prog_93_method_3_code 243 = .ok (.iload 4, 2) := by decide +kernel
theorem d2_245 : decode prog_93_method_3_code 245 = .ok (.goto 4, 3) := by decide +kernel
theorem d2_248 : decode prog_93_method_3_code 248 = .ok (.iconst 0, 1) := by decide +kernel
theorem d2_249 : decode prog_93_method_3_code 249 = .ok (.ireturn, 1) := by decide +kernel
theorem pn_2 : plainFor (⟨"com/example/sober_links/soberlinks/io/Utf8", "sequenceLength", "([BII)I"⟩ : MethodName) = true := plainFor_of_name (show plainName "com/example/sober_links/soberlinks/io/Utf8" = true by first | (simp [plainName, overriddenIn]; done) | decide +kernel)
theorem ef_rm3 (m : MethodId) (x0 : Addr) (x1 : Int32) (x2 : Int32) : entryFrame m #[(.ref x0), (.int x1), (.int x2)] 10 = mkF m 0 #[rv x0, iv x1, iv x2, .unset, .unset, .unset, .unset, .unset, .unset, .unset] [] := by first | (simp [entryFrame, mkF, argsToLocals, Value.category]; done) | rfl
def seqF (p2 : Int32) (p3 : Int32) (x0 : Int32) (x1 : Int32) (x2 : Int32) (x3 : Int32) : Int32 := (if (x0 &&& (255 : Int32)) < (128 : Int32) then (if (if p3 < (p2 + (1 : Int32)) then (0 : Int32) else (1 : Int32)) = (0 : Int32) then (0 : Int32) else (1 : Int32)) else (if (x0 &&& (255 : Int32)) < (194 : Int32) then (0 : Int32) else (if (x0 &&& (255 : Int32)) < (224 : Int32) then (if (if p3 < (p2 + (2 : Int32)) then (0 : Int32) else (1 : Int32)) = (0 : Int32) then (0 : Int32) else (if (if (x1 &&& (255 : Int32)) < (128 : Int32) then (0 : Int32) else (if (191 : Int32) < (x1 &&& (255 : Int32)) then (0 : Int32) else (1 : Int32))) = (0 : Int32) then (0 : Int32) else (2 : Int32))) else (if (x0 &&& (255 : Int32)) < (240 : Int32) then (if (if p3 < (p2 + (3 : Int32)) then (0 : Int32) else (1 : Int32)) = (0 : Int32) then (0 : Int32) else (if (if (x1 &&& (255 : Int32)) < (if (x0 &&& (255 : Int32)) = (224 : Int32) then (160 : Int32) else (128 : Int32)) then (0 : Int32) else (if (if (x0 &&& (255 : Int32)) = (237 : Int32) then (159 : Int32) else (191 : Int32)) < (x1 &&& (255 : Int32)) then (0 : Int32) else (1 : Int32))) = (0 : Int32) then (0 : Int32) else (if (if (x2 &&& (255 : Int32)) < (128 : Int32) then (0 : Int32) else (if (191 : Int32) < (x2 &&& (255 : Int32)) then (0 : Int32) else (1 : Int32))) = (0 : Int32) then (0 : Int32) else (3 : Int32)))) else (if (x0 &&& (255 : Int32)) < (245 : Int32) then (if (if p3 < (p2 + (4 : Int32)) then (0 : Int32) else (1 : Int32)) = (0 : Int32) then (0 : Int32) else (if (if (x1 &&& (255 : Int32)) < (if (x0 &&& (255 : Int32)) = (240 : Int32) then (144 : Int32) else (128 : Int32)) then (0 : Int32) else (if (if (x0 &&& (255 : Int32)) = (244 : Int32) then (143 : Int32) else (191 : Int32)) < (x1 &&& (255 : Int32)) then (0 : Int32) else (1 : Int32))) = (0 : Int32) then (0 : Int32) else (if (if (x2 &&& (255 : Int32)) < (128 : Int32) then (0 : Int32) else (if (191 : Int32) < (x2 &&& (255 : Int32)) then (0 : Int32) else (1 : Int32))) = (0 : Int32) then (0 : Int32) else (if (if (x3 &&& (255 : Int32)) < (128 : Int32) then (0 : Int32) else (if (191 : Int32) < (x3 &&& (255 : Int32)) then (0 : Int32) else (1 : Int32))) = (0 : Int32) then (0 : Int32) else (4 : Int32))))) else (0 : Int32))))))
set_option maxRecDepth 65536 in
set_option maxHeartbeats 40000000 in
theorem rm3 (l : Launch) (Z : State) (a0 : Array Value) (hw : ∀ d ∈ tables_1, d.before a0 Z = true) (ws : List Jvm.Cond) (a1 : Addr) (p2 : Int32) (p3 : Int32) (kk : ClassId) (zz : Int32) (vs : List Value) (x0 x1 x2 x3 : Int32) (h0 : Heap) (n0 : Nat) (Z0 : n0 ≤ h0.size) (V_a1 : Arv Z h0 a1 kk .byte zz vs (.int 0)) (I0 : ¬ p2 < 0 ∧ p2 < zz) (G0 : vs.getD (p2).toNatClampNeg (.int (0 : Int32)) = .int x0) (I1 : ¬ (p2 + (1 : Int32)) < 0 ∧ (p2 + (1 : Int32)) < zz) (G1 : vs.getD ((p2 + (1 : Int32))).toNatClampNeg (.int (0 : Int32)) = .int x1) (I2 : ¬ (p2 + (2 : Int32)) < 0 ∧ (p2 + (2 : Int32)) < zz) (G2 : vs.getD ((p2 + (2 : Int32))).toNatClampNeg (.int (0 : Int32)) = .int x2) (I3 : ¬ (p2 + (3 : Int32)) < 0 ∧ (p2 + (3 : Int32)) < zz) (G3 : vs.getD ((p2 + (3 : Int32))).toNatClampNeg (.int (0 : Int32)) = .int x3) :
    MetFree l (⟨"com/example/sober_links/soberlinks/io/Utf8", "sequenceLength", "([BII)I"⟩ : MethodName) (head1 (Jvm.Cond.code (⟨"com/example/sober_links/soberlinks/io/Utf8", "sequenceLength", "([BII)I"⟩ : MethodName) prog_93_method_3_code 10 (some .int) :: ws) ({ frames := 0, cells := 0, slots := 0, locals := 0 } : Room)) (fun a U => a = #[(.ref a1), (.int p2), (.int p3)] ∧ Z.Warmed39 U.vm ∧ U.heap = h0) (fun _ _ _ _ _ => True) (fun _ U o U' => ∃ v L, o = .returned v ∧ QP (.int (seqF p2 p3 x0 x1 x2 x3)) h0 n0 v U'.heap L ∧ FrameEnd U o U' L ({ frames := 0, cells := 0, slots := 0, locals := 0 } : Room).cells ({ frames := 0, cells := 0, slots := 0, locals := 0 } : Room).slots) := by
  refine own_enter pn_2 ?_
  intro p e s m below meth c s₁ QQ hQQ hx hby hml hown hnm hret hlk hZ X0 e0
  have hown : s.vm.findClass "com/example/sober_links/soberlinks/io/Utf8" = some m.cls := hown
  have hml : c.maxLocals = 10 := hml
  have hret : meth.sig.returnType = some .int := hret
  have N0 := Fr.nil n0
  have K0 := Keep.refl h0 []
  refine Goes.cast (ef_rm3 m a1 p2 p3) ?_
  show Goes p e below QQ (s₁.setTop (mkF m 0 #[rv a1, iv p2, iv p3, .unset, .unset, .unset, .unset, .unset, .unset, .unset] []))
  refine Goes.on (fun t k => XS.aloadN X0.here hx rfl (hb hby d2_0) rfl rfl k) ?_
  show Goes p e below QQ (s₁.setTop (mkF m 1 #[rv a1, iv p2, iv p3, .unset, .unset, .unset, .unset, .unset, .unset, .unset] [(.ref a1)]))
  refine Goes.on (fun t k => XS.iloadN X0.here hx rfl (hb hby d2_1) rfl k) ?_
  show Goes p e below QQ (s₁.setTop (mkF m 2 #[rv a1, iv p2, iv p3, .unset, .unset, .unset, .unset, .unset, .unset, .unset] [(.int p2), (.ref a1)]))
  obtain ⟨cl1, Ar1, aq1, aS1, aN1, aH1, aG1⟩ := id V_a1
  have hin1 := inb_of (j := p2) aS1 I0
  have hat1 := Has.at (v := (.int x0)) aH1 hin1 G0
  refine Goes.on (fun t k => X0.baloadBytes hx (j := p2) (v := (.int x0)) (by rw [e0]; exact Ar1.1) (State.isArrayOf_alike hZ.alike Ar1.2.1) Ar1.2.2 hin1 hat1 (g := (mkF m 2 #[rv a1, iv p2, iv p3, .unset, .unset, .unset, .unset, .unset, .unset, .unset] [(.int p2), (.ref a1)])) rfl rfl (hb hby d2_2) t k) ?_
  show Goes p e below QQ (s₁.setTop (mkF m 3 #[rv a1, iv p2, iv p3, .unset, .unset, .unset, .unset, .unset, .unset, .unset] [(.int x0)]))
  refine Goes.on (fun t k => XS.sipush X0.here hx rfl (hb hby d2_3) k) ?_
  show Goes p e below QQ (s₁.setTop (mkF m 6 #[rv a1, iv p2, iv p3, .unset, .unset, .unset, .unset, .unset, .unset, .unset] [(.int 255), (.int x0)]))
  refine Goes.on (fun t k => XS.iand X0.here hx rfl (hb hby d2_6) rfl k) ?_
  show Goes p e below QQ (s₁.setTop (mkF m 7 #[rv a1, iv p2, iv p3, .unset, .unset, .unset, .unset, .unset, .unset, .unset] [(.int (x0 &&& (255 : Int32)))]))
  refine Goes.on (fun t k => XS.istoreN X0.here hx rfl (hb hby d2_7) rfl (l' := #[rv a1, iv p2, iv p3, iv (x0 &&& (255 : Int32)), .unset, .unset, .unset, .unset, .unset, .unset]) rfl k) ?_
  show Goes p e below QQ (s₁.setTop (mkF m 8 #[rv a1, iv p2, iv p3, iv (x0 &&& (255 : Int32)), .unset, .unset, .unset, .unset, .unset, .unset] []))
  refine Goes.on (fun t k => XS.sipush X0.here hx rfl (hb hby d2_8) k) ?_
  show Goes p e below QQ (s₁.setTop (mkF m 11 #[rv a1, iv p2, iv p3, iv (x0 &&& (255 : Int32)), .unset, .unset, .unset, .unset, .unset, .unset] [(.int 128)]))
  refine Goes.on (fun t k => XS.istore X0.here hx rfl (hb hby d2_11) rfl (l' := #[rv a1, iv p2, iv p3, iv (x0 &&& (255 : Int32)), .unset, iv 128, .unset, .unset, .unset, .unset]) rfl k) ?_
  show Goes p e below QQ (s₁.setTop (mkF m 13 #[rv a1, iv p2, iv p3, iv (x0 &&& (255 : Int32)), .unset, iv 128, .unset, .unset, .unset, .unset] []))
  refine Goes.on (fun t k => XS.sipush X0.here hx rfl (hb hby d2_13) k) ?_
  show Goes p e below QQ (s₁.setTop (mkF m 16 #[rv a1, iv p2, iv p3, iv (x0 &&& (255 : Int32)), .unset, iv 128, .unset, .unset, .unset, .unset] [(.int 191)]))
  refine Goes.on (fun t k => XS.istore X0.here hx rfl (hb hby d2_16) rfl (l' := #[rv a1, iv p2, iv p3, iv (x0 &&& (255 : Int32)), .unset, iv 128, iv 191, .unset, .unset, .unset]) rfl k) ?_
  show Goes p e below QQ (s₁.setTop (mkF m 18 #[rv a1, iv p2, iv p3, iv (x0 &&& (255 : Int32)), .unset, iv 128, iv 191, .unset, .unset, .unset] []))
  refine Goes.on (fun t k => XS.iloadN X0.here hx rfl (hb hby d2_18) rfl k) ?_
  show Goes p e below QQ (s₁.setTop (mkF m 19 #[rv a1, iv p2, iv p3, iv (x0 &&& (255 : Int32)), .unset, iv 128, iv 191, .unset, .unset, .unset] [(.int (x0 &&& (255 : Int32)))]))
  refine Goes.on (fun t k => XS.sipush X0.here hx rfl (hb hby d2_19) k) ?_
  show Goes p e below QQ (s₁.setTop (mkF m 22 #[rv a1, iv p2, iv p3, iv (x0 &&& (255 : Int32)), .unset, iv 128, iv 191, .unset, .unset, .unset] [(.int 128), (.int (x0 &&& (255 : Int32)))]))
  by_cases hb2 : (x0 &&& (255 : Int32)) < (128 : Int32)
  · refine Goes.on (fun t k => XS.icmpNo X0.here hx rfl (hb hby d2_22) rfl (tlt hb2).2.1 k) ?_
    show Goes p e below QQ (s₁.setTop (mkF m 25 #[rv a1, iv p2, iv p3, iv (x0 &&& (255 : Int32)), .unset, iv 128, iv 191, .unset, .unset, .unset] []))
    refine Goes.on (fun t k => XS.iconst X0.here hx rfl (hb hby d2_25) k) ?_
    show Goes p e below QQ (s₁.setTop (mkF m 26 #[rv a1, iv p2, iv p3, iv (x0 &&& (255 : Int32)), .unset, iv 128, iv 191, .unset, .unset, .unset] [(.int 1)]))
    refine Goes.on (fun t k => XS.istore X0.here hx rfl (hb hby d2_26) rfl (l' := #[rv a1, iv p2, iv p3, iv (x0 &&& (255 : Int32)), iv 1, iv 128, iv 191, .unset, .unset, .unset]) rfl k) ?_
    show Goes p e below QQ (s₁.setTop (mkF m 28 #[rv a1, iv p2, iv p3, iv (x0 &&& (255 : Int32)), iv 1, iv 128, iv 191, .unset, .unset, .unset] []))
    refine Goes.on (fun t k => XS.goto X0.here hx rfl (pc0 := 28) (pc' := 154) rfl (hb hby d2_28) (by decide) (by decide) k) ?_
    show Goes p e below QQ (s₁.setTop (mkF m 154 #[rv a1, iv p2, iv p3, iv (x0 &&& (255 : Int32)), iv 1, iv 128, iv 191, .unset, .unset, .unset] []))
    refine Goes.on (fun t k => XS.iload X0.here hx rfl (hb hby d2_154) rfl k) ?_
    show Goes p e below QQ (s₁.setTop (mkF m 156 #[rv a1, iv p2, iv p3, iv (x0 &&& (255 : Int32)), iv 1, iv 128, iv 191, .unset, .unset, .unset] [(.int 1)]))
    refine Goes.on (fun t k => XS.ifNo X0.here hx rfl (hb hby d2_156) rfl ((if0 _ _).trans (tlt (by decide)).2.2.2) k) ?_
    show Goes p e below QQ (s₁.setTop (mkF m 159 #[rv a1, iv p2, iv p3, iv (x0 &&& (255 : Int32)), iv 1, iv 128, iv 191, .unset, .unset, .unset] []))
    refine Goes.on (fun t k => XS.iloadN X0.here hx rfl (hb hby d2_159) rfl k) ?_
    show Goes p e below QQ (s₁.setTop (mkF m 160 #[rv a1, iv p2, iv p3, iv (x0 &&& (255 : Int32)), iv 1, iv 128, iv 191, .unset, .unset, .unset] [(.int p2)]))
    refine Goes.on (fun t k => XS.iload X0.here hx rfl (hb hby d2_160) rfl k) ?_
    show Goes p e below QQ (s₁.setTop (mkF m 162 #[rv a1, iv p2, iv p3, iv (x0 &&& (255 : Int32)), iv 1, iv 128, iv 191, .unset, .unset, .unset] [(.int 1), (.int p2)]))
    refine Goes.on (fun t k => XS.iadd X0.here hx rfl (hb hby d2_162) rfl k) ?_
    show Goes p e below QQ (s₁.setTop (mkF m 163 #[rv a1, iv p2, iv p3, iv (x0 &&& (255 : Int32)), iv 1, iv 128, iv 191, .unset, .unset, .unset] [(.int (p2 + (1 : Int32)))]))
    refine Goes.on (fun t k => XS.iloadN X0.here hx rfl (hb hby d2_163) rfl k) ?_
    show Goes p e below QQ (s₁.setTop (mkF m 164 #[rv a1, iv p2, iv p3, iv (x0 &&& (255 : Int32)), iv 1, iv 128, iv 191, .unset, .unset, .unset] [(.int p3), (.int (p2 + (1 : Int32)))]))
    have J3 : ∀ (TJ3 : State) (lJ3 : List Loc), Stand p l e ({ frames := 0, cells := 0, slots := 0, locals := 0 } : Room) s m #[(.ref a1), (.int p2), (.int p3)] below meth c TJ3 lJ3 0 0 → TJ3.heap = h0 → Fr n0 lJ3 → Goes p e below QQ (TJ3.setTop (mkF m 172 #[rv a1, iv p2, iv p3, iv (x0 &&& (255 : Int32)), iv 1, iv 128, iv 191, .unset, .unset, .unset] [(.int (if p3 < (p2 + (1 : Int32)) then (0 : Int32) else (1 : Int32)))])) := by
      intro TJ3 lJ3 XJ3 eJ3 NJ3
      refine Goes.on (fun t k => XS.istore XJ3.here hx rfl (hb hby d2_172) rfl (l' := #[rv a1, iv p2, iv p3, iv (x0 &&& (255 : Int32)), iv 1, iv 128, iv 191, iv (if p3 < (p2 + (1 : Int32)) then (0 : Int32) else (1 : Int32)), .unset, .unset]) rfl k) ?_
      show Goes p e below QQ (TJ3.setTop (mkF m 174 #[rv a1, iv p2, iv p3, iv (x0 &&& (255 : Int32)), iv 1, iv 128, iv 191, iv (if p3 < (p2 + (1 : Int32)) then (0 : Int32) else (1 : Int32)), .unset, .unset] []))
      refine Goes.on (fun t k => XS.iconst XJ3.here hx rfl (hb hby d2_174) k) ?_
      show Goes p e below QQ (TJ3.setTop (mkF m 175 #[rv a1, iv p2, iv p3, iv (x0 &&& (255 : Int32)), iv 1, iv 128, iv 191, iv (if p3 < (p2 + (1 : Int32)) then (0 : Int32) else (1 : Int32)), .unset, .unset] [(.int 1)]))
      refine Goes.on (fun t k => XS.istore XJ3.here hx rfl (hb hby d2_175) rfl (l' := #[rv a1, iv p2, iv p3, iv (x0 &&& (255 : Int32)), iv 1, iv 128, iv 191, iv (if p3 < (p2 + (1 : Int32)) then (0 : Int32) else (1 : Int32)), iv 1, .unset]) rfl k) ?_
      show Goes p e below QQ (TJ3.setTop (mkF m 177 #[rv a1, iv p2, iv p3, iv (x0 &&& (255 : Int32)), iv 1, iv 128, iv 191, iv (if p3 < (p2 + (1 : Int32)) then (0 : Int32) else (1 : Int32)), iv 1, .unset] []))
      refine Goes.on (fun t k => XS.iload XJ3.here hx rfl (hb hby d2_177) rfl k) ?_
      show Goes p e below QQ (TJ3.setTop (mkF m 179 #[rv a1, iv p2, iv p3, iv (x0 &&& (255 : Int32)), iv 1, iv 128, iv 191, iv (if p3 < (p2 + (1 : Int32)) then (0 : Int32) else (1 : Int32)), iv 1, .unset] [(.int (if p3 < (p2 + (1 : Int32)) then (0 : Int32) else (1 : Int32)))]))
      by_cases hb4 : (if p3 < (p2 + (1 : Int32)) then (0 : Int32) else (1 : Int32)) = (0 : Int32)
      · refine Goes.on (fun t k => XS.ifYes XJ3.here hx rfl (pc0 := 179) (pc' := 238) rfl (hb hby d2_179) rfl ((if0 _ _).trans (teq hb4).1) (by decide) (by decide) k) ?_
        show Goes p e below QQ (TJ3.setTop (mkF m 238 #[rv a1, iv p2, iv p3, iv (x0 &&& (255 : Int32)), iv 1, iv 128, iv 191, iv (if p3 < (p2 + (1 : Int32)) then (0 : Int32) else (1 : Int32)), iv 1, .unset] []))
        refine Goes.on (fun t k => XS.iload XJ3.here hx rfl (hb hby d2_238) rfl k) ?_
        show Goes p e below QQ (TJ3.setTop (mkF m 240 #[rv a1, iv p2, iv p3, iv (x0 &&& (255 : Int32)), iv 1, iv 128, iv 191, iv (if p3 < (p2 + (1 : Int32)) then (0 : Int32) else (1 : Int32)), iv 1, .unset] [(.int (if p3 < (p2 + (1 : Int32)) then (0 : Int32) else (1 : Int32)))]))
        refine Goes.on (fun t k => XS.ifYes XJ3.here hx rfl (pc0 := 240) (pc' := 248) rfl (hb hby d2_240) rfl ((if0 _ _).trans (teq hb4).1) (by decide) (by decide) k) ?_
        show Goes p e below QQ (TJ3.setTop (mkF m 248 #[rv a1, iv p2, iv p3, iv (x0 &&& (255 : Int32)), iv 1, iv 128, iv 191, iv (if p3 < (p2 + (1 : Int32)) then (0 : Int32) else (1 : Int32)), iv 1, .unset] []))
        refine Goes.on (fun t k => XS.iconst XJ3.here hx rfl (hb hby d2_248) k) ?_
        show Goes p e below QQ (TJ3.setTop (mkF m 249 #[rv a1, iv p2, iv p3, iv (x0 &&& (255 : Int32)), iv 1, iv 128, iv 191, iv (if p3 < (p2 + (1 : Int32)) then (0 : Int32) else (1 : Int32)), iv 1, .unset] [(.int 0)]))
        exact Goes.rI XJ3 hx hret hlk (hb hby d2_249) hQQ ⟨congrArg (fun z => some (Value.int z)) (((if_pos hb2).trans ((if_pos hb4).trans rfl)) : (seqF p2 p3 x0 x1 x2 x3) = (0 : Int32)).symm, NJ3, eJ3⟩ (by decide) (by decide)
      · refine Goes.on (fun t k => XS.ifNo XJ3.here hx rfl (hb hby d2_179) rfl ((if0 _ _).trans (feq hb4).1) k) ?_
        show Goes p e below QQ (TJ3.setTop (mkF m 182 #[rv a1, iv p2, iv p3, iv (x0 &&& (255 : Int32)), iv 1, iv 128, iv 191, iv (if p3 < (p2 + (1 : Int32)) then (0 : Int32) else (1 : Int32)), iv 1, .unset] []))
        refine Goes.on (fun t k => XS.iload XJ3.here hx rfl (hb hby d2_182) rfl k) ?_
        show Goes p e below QQ (TJ3.setTop (mkF m 184 #[rv a1, iv p2, iv p3, iv (x0 &&& (255 : Int32)), iv 1, iv 128, iv 191, iv (if p3 < (p2 + (1 : Int32)) then (0 : Int32) else (1 : Int32)), iv 1, .unset] [(.int 1)]))
        refine Goes.on (fun t k => XS.iload XJ3.here hx rfl (hb hby d2_184) rfl k) ?_
        show Goes p e below QQ (TJ3.setTop (mkF m 186 #[rv a1, iv p2, iv p3, iv (x0 &&& (255 : Int32)), iv 1, iv 128, iv 191, iv (if p3 < (p2 + (1 : Int32)) then (0 : Int32) else (1 : Int32)), iv 1, .unset] [(.int 1), (.int 1)]))
        refine Goes.on (fun t k => XS.icmpYes XJ3.here hx rfl (pc0 := 186) (pc' := 238) rfl (hb hby d2_186) rfl (flt (by decide)).2.1 (by decide) (by decide) k) ?_
        show Goes p e below QQ (TJ3.setTop (mkF m 238 #[rv a1, iv p2, iv p3, iv (x0 &&& (255 : Int32)), iv 1, iv 128, iv 191, iv (if p3 < (p2 + (1 : Int32)) then (0 : Int32) else (1 : Int32)), iv 1, .unset] []))
        refine Goes.on (fun t k => XS.iload XJ3.here hx rfl (hb hby d2_238) rfl k) ?_
        show Goes p e below QQ (TJ3.setTop (mkF m 240 #[rv a1, iv p2, iv p3, iv (x0 &&& (255 : Int32)), iv 1, iv 128, iv 191, iv (if p3 < (p2 + (1 : Int32)) then (0 : Int32) else (1 : Int32)), iv 1, .unset] [(.int (if p3 < (p2 + (1 : Int32)) then (0 : Int32) else (1 : Int32)))]))
        refine Goes.on (fun t k => XS.ifNo XJ3.here hx rfl (hb hby d2_240) rfl ((if0 _ _).trans (feq hb4).1) k) ?_
        show Goes p e below QQ (TJ3.setTop (mkF m 243 #[rv a1, iv p2, iv p3, iv (x0 &&& (255 : Int32)), iv 1, iv 128, iv 191, iv (if p3 < (p2 + (1 : Int32)) then (0 : Int32) else (1 : Int32)), iv 1, .unset] []))
        refine Goes.on (fun t k => XS.iload XJ3.here hx rfl (hb hby d2_243) rfl k) ?_
        show Goes p e below QQ (TJ3.setTop (mkF m 245 #[rv a1, iv p2, iv p3, iv (x0 &&& (255 : Int32)), iv 1, iv 128, iv 191, iv (if p3 < (p2 + (1 : Int32)) then (0 : Int32) else (1 : Int32)), iv 1, .unset] [(.int 1)]))
        refine Goes.on (fun t k => XS.goto XJ3.here hx rfl (pc0 := 245) (pc' := 249) rfl (hb hby d2_245) (by decide) (by decide) k) ?_
        show Goes p e below QQ (TJ3.setTop (mkF m 249 #[rv a1, iv p2, iv p3, iv (x0 &&& (255 : Int32)), iv 1, iv 128, iv 191, iv (if p3 < (p2 + (1 : Int32)) then (0 : Int32) else (1 : Int32)), iv 1, .unset] [(.int 1)]))
        exact Goes.rI XJ3 hx hret hlk (hb hby d2_249) hQQ ⟨congrArg (fun z => some (Value.int z)) (((if_pos hb2).trans ((if_neg hb4).trans rfl)) : (seqF p2 p3 x0 x1 x2 x3) = (1 : Int32)).symm, NJ3, eJ3⟩ (by decide) (by decide)
    show Goes p e below QQ (s₁.setTop (mkF m 164 #[rv a1, iv p2, iv p3, iv (x0 &&& (255 : Int32)), iv 1, iv 128, iv 191, .unset, .unset, .unset] [(.int p3), (.int (p2 + (1 : Int32)))]))
    by_cases hb5 : p3 < (p2 + (1 : Int32))
    · refine Goes.on (fun t k => XS.icmpYes X0.here hx rfl (pc0 := 164) (pc' := 171) rfl (hb hby d2_164) rfl (tlt hb5).2.2.1 (by decide) (by decide) k) ?_
      show Goes p e below QQ (s₁.setTop (mkF m 171 #[rv a1, iv p2, iv p3, iv (x0 &&& (255 : Int32)), iv 1, iv 128, iv 191, .unset, .unset, .unset] []))
      refine Goes.on (fun t k => XS.iconst X0.here hx rfl (hb hby d2_171) k) ?_
      show Goes p e below QQ (s₁.setTop (mkF m 172 #[rv a1, iv p2, iv p3, iv (x0 &&& (255 : Int32)), iv 1, iv 128, iv 191, .unset, .unset, .unset] [(.int 0)]))
      rw [(((if_pos hb5).trans rfl) : (if p3 < (p2 + (1 : Int32)) then (0 : Int32) else (1 : Int32)) = (0 : Int32))] at J3
      exact J3 _ _ X0 e0 N0
    · refine Goes.on (fun t k => XS.icmpNo X0.here hx rfl (hb hby d2_164) rfl (flt hb5).2.2.1 k) ?_
      show Goes p e below QQ (s₁.setTop (mkF m 167 #[rv a1, iv p2, iv p3, iv (x0 &&& (255 : Int32)), iv 1, iv 128, iv 191, .unset, .unset, .unset] []))
      refine Goes.on (fun t k => XS.iconst X0.here hx rfl (hb hby d2_167) k) ?_
      show Goes p e below QQ (s₁.setTop (mkF m 168 #[rv a1, iv p2, iv p3, iv (x0 &&& (255 : Int32)), iv 1, iv 128, iv 191, .unset, .unset, .unset] [(.int 1)]))
      refine Goes.on (fun t k => XS.goto X0.here hx rfl (pc0 := 168) (pc' := 172) rfl (hb hby d2_168) (by decide) (by decide) k) ?_
      show Goes p e below QQ (s₁.setTop (mkF m 172 #[rv a1, iv p2, iv p3, iv (x0 &&& (255 : Int32)), iv 1, iv 128, iv 191, .unset, .unset, .unset] [(.int 1)]))
      rw [(((if_neg hb5).trans rfl) : (if p3 < (p2 + (1 : Int32)) then (0 : Int32) else (1 : Int32)) = (1 : Int32))] at J3
      exact J3 _ _ X0 e0 N0
  · refine Goes.on (fun t k => XS.icmpYes X0.here hx rfl (pc0 := 22) (pc' := 31) rfl (hb hby d2_22) rfl (flt hb2).2.1 (by decide) (by decide) k) ?_
    show Goes p e below QQ (s₁.setTop (mkF m 31 #[rv a1, iv p2, iv p3, iv (x0 &&& (255 : Int32)), .unset, iv 128, iv 191, .unset, .unset, .unset] []))
    refine Goes.on (fun t k => XS.iloadN X0.here hx rfl (hb hby d2_31) rfl k) ?_
    show Goes p e below QQ (s₁.setTop (mkF m 32 #[rv a1, iv p2, iv p3, iv (x0 &&& (255 : Int32)), .unset, iv 128, iv 191, .unset, .unset, .unset] [(.int (x0 &&& (255 : Int32)))]))
    refine Goes.on (fun t k => XS.sipush X0.here hx rfl (hb hby d2_32) k) ?_
    show Goes p e below QQ (s₁.setTop (mkF m 35 #[rv a1, iv p2, iv p3, iv (x0 &&& (255 : Int32)), .unset, iv 128, iv 191, .unset, .unset, .unset] [(.int 194), (.int (x0 &&& (255 : Int32)))]))
    by_cases hb6 : (x0 &&& (255 : Int32)) < (194 : Int32)
    · refine Goes.on (fun t k => XS.icmpNo X0.here hx rfl (hb hby d2_35) rfl (tlt hb6).2.1 k) ?_
      show Goes p e below QQ (s₁.setTop (mkF m 38 #[rv a1, iv p2, iv p3, iv (x0 &&& (255 : Int32)), .unset, iv 128, iv 191, .unset, .unset, .unset] []))
      refine Goes.on (fun t k => XS.iconst X0.here hx rfl (hb hby d2_38) k) ?_
      show Goes p e below QQ (s₁.setTop (mkF m 39 #[rv a1, iv p2, iv p3, iv (x0 &&& (255 : Int32)), .unset, iv 128, iv 191, .unset, .unset, .unset] [(.int 0)]))
      refine Goes.on (fun t k => XS.istore X0.here hx rfl (hb hby d2_39) rfl (l' := #[rv a1, iv p2, iv p3, iv (x0 &&& (255 : Int32)), iv 0, iv 128, iv 191, .unset, .unset, .unset]) rfl k) ?_
      show Goes p e below QQ (s₁.setTop (mkF m 41 #[rv a1, iv p2, iv p3, iv (x0 &&& (255 : Int32)), iv 0, iv 128, iv 191, .unset, .unset, .unset] []))
      refine Goes.on (fun t k => XS.goto X0.here hx rfl (pc0 := 41) (pc' := 154) rfl (hb hby d2_41) (by decide) (by decide) k) ?_
      show Goes p e below QQ (s₁.setTop (mkF m 154 #[rv a1, iv p2, iv p3, iv (x0 &&& (255 : Int32)), iv 0, iv 128, iv 191, .unset, .unset, .unset] []))
      refine Goes.on (fun t k => XS.iload X0.here hx rfl (hb hby d2_154) rfl k) ?_
      show Goes p e below QQ (s₁.setTop (mkF m 156 #[rv a1, iv p2, iv p3, iv (x0 &&& (255 : Int32)), iv 0, iv 128, iv 191, .unset, .unset, .unset] [(.int 0)]))
      refine Goes.on (fun t k => XS.ifYes X0.here hx rfl (pc0 := 156) (pc' := 171) rfl (hb hby d2_156) rfl ((if0 _ _).trans (flt (by decide)).2.2.2) (by decide) (by decide) k) ?_
      show Goes p e below QQ (s₁.setTop (mkF m 171 #[rv a1, iv p2, iv p3, iv (x0 &&& (255 : Int32)), iv 0, iv 128, iv 191, .unset, .unset, .unset] []))
      refine Goes.on (fun t k => XS.iconst X0.here hx rfl (hb hby d2_171) k) ?_
      show Goes p e below QQ (s₁.setTop (mkF m 172 #[rv a1, iv p2, iv p3, iv (x0 &&& (255 : Int32)), iv 0, iv 128, iv 191, .unset, .unset, .unset] [(.int 0)]))
      refine Goes.on (fun t k => XS.istore X0.here hx rfl (hb hby d2_172) rfl (l' := #[rv a1, iv p2, iv p3, iv (x0 &&& (255 : Int32)), iv 0, iv 128, iv 191, iv 0, .unset, .unset]) rfl k) ?_
      show Goes p e below QQ (s₁.setTop (mkF m 174 #[rv a1, iv p2, iv p3, iv (x0 &&& (255 : Int32)), iv 0, iv 128, iv 191, iv 0, .unset, .unset] []))
      refine Goes.on (fun t k => XS.iconst X0.here hx rfl (hb hby d2_174) k) ?_
      show Goes p e below QQ (s₁.setTop (mkF m 175 #[rv a1, iv p2, iv p3, iv (x0 &&& (255 : Int32)), iv 0, iv 128, iv 191, iv 0, .unset, .unset] [(.int 1)]))
      refine Goes.on (fun t k => XS.istore X0.here hx rfl (hb hby d2_175) rfl (l' := #[rv a1, iv p2, iv p3, iv (x0 &&& (255 : Int32)), iv 0, iv 128, iv 191, iv 0, iv 1, .unset]) rfl k) ?_
      show Goes p e below QQ (s₁.setTop (mkF m 177 #[rv a1, iv p2, iv p3, iv (x0 &&& (255 : Int32)), iv 0, iv 128, iv 191, iv 0, iv 1, .unset] []))
      refine Goes.on (fun t k => XS.iload X0.here hx rfl (hb hby d2_177) rfl k) ?_
      show Goes p e below QQ (s₁.setTop (mkF m 179 #[rv a1, iv p2, iv p3, iv (x0 &&& (255 : Int32)), iv 0, iv 128, iv 191, iv 0, iv 1, .unset] [(.int 0)]))
      refine Goes.on (fun t k => XS.ifYes X0.here hx rfl (pc0 := 179) (pc' := 238) rfl (hb hby d2_179) rfl ((if0 _ _).trans (teq (by decide)).1) (by decide) (by decide) k) ?_
      show Goes p e below QQ (s₁.setTop (mkF m 238 #[rv a1, iv p2, iv p3, iv (x0 &&& (255 : Int32)), iv 0, iv 128, iv 191, iv 0, iv 1, .unset] []))
      refine Goes.on (fun t k => XS.iload X0.here hx rfl (hb hby d2_238) rfl k) ?_
      show Goes p e below QQ (s₁.setTop (mkF m 240 #[rv a1, iv p2, iv p3, iv (x0 &&& (255 : Int32)), iv 0, iv 128, iv 191, iv 0, iv 1, .unset] [(.int 0)]))
      refine Goes.on (fun t k => XS.ifYes X0.here hx rfl (pc0 := 240) (pc' := 248) rfl (hb hby d2_240) rfl ((if0 _ _).trans (teq (by decide)).1) (by decide) (by decide) k) ?_
      show Goes p e below QQ (s₁.setTop (mkF m 248 #[rv a1, iv p2, iv p3, iv (x0 &&& (255 : Int32)), iv 0, iv 128, iv 191, iv 0, iv 1, .unset] []))
      refine Goes.on (fun t k => XS.iconst X0.here hx rfl (hb hby d2_248) k) ?_
      show Goes p e below QQ (s₁.setTop (mkF m 249 #[rv a1, iv p2, iv p3, iv (x0 &&& (255 : Int32)), iv 0, iv 128, iv 191, iv 0, iv 1, .unset] [(.int 0)]))
      exact Goes.rI X0 hx hret hlk (hb hby d2_249) hQQ ⟨congrArg (fun z => some (Value.int z)) (((if_neg hb2).trans ((if_pos hb6).trans rfl)) : (seqF p2 p3 x0 x1 x2 x3) = (0 : Int32)).symm, N0, e0⟩ (by decide) (by decide)
    · refine Goes.on (fun t k => XS.icmpYes X0.here hx rfl (pc0 := 35) (pc' := 44) rfl (hb hby d2_35) rfl (flt hb6).2.1 (by decide) (by decide) k) ?_
      show Goes p e below QQ (s₁.setTop (mkF m 44 #[rv a1, iv p2, iv p3, iv (x0 &&& (255 : Int32)), .unset, iv 128, iv 191, .unset, .unset, .unset] []))
      refine Goes.on (fun t k => XS.iloadN X0.here hx rfl (hb hby d2_44) rfl k) ?_
      show Goes p e below QQ (s₁.setTop (mkF m 45 #[rv a1, iv p2, iv p3, iv (x0 &&& (255 : Int32)), .unset, iv 128, iv 191, .unset, .unset, .unset] [(.int (x0 &&& (255 : Int32)))]))
      refine Goes.on (fun t k => XS.sipush X0.here hx rfl (hb hby d2_45) k) ?_
      show Goes p e below QQ (s₁.setTop (mkF m 48 #[rv a1, iv p2, iv p3, iv (x0 &&& (255 : Int32)), .unset, iv 128, iv 191, .unset, .unset, .unset] [(.int 224), (.int (x0 &&& (255 : Int32)))]))
      by_cases hb7 : (x0 &&& (255 : Int32)) < (224 : Int32)
      · refine Goes.on (fun t k => XS.icmpNo X0.here hx rfl (hb hby d2_48) rfl (tlt hb7).2.1 k) ?_
        show Goes p e below QQ (s₁.setTop (mkF m 51 #[rv a1, iv p2, iv p3, iv (x0 &&& (255 : Int32)), .unset, iv 128, iv 191, .unset, .unset, .unset] []))
        refine Goes.on (fun t k => XS.iconst X0.here hx rfl (hb hby d2_51) k) ?_
        show Goes p e below QQ (s₁.setTop (mkF m 52 #[rv a1, iv p2, iv p3, iv (x0 &&& (255 : Int32)), .unset, iv 128, iv 191, .unset, .unset, .unset] [(.int 2)]))
        refine Goes.on (fun t k => XS.istore X0.here hx rfl (hb hby d2_52) rfl (l' := #[rv a1, iv p2, iv p3, iv (x0 &&& (255 : Int32)), iv 2, iv 128, iv 191, .unset, .unset, .unset]) rfl k) ?_
        show Goes p e below QQ (s₁.setTop (mkF m 54 #[rv a1, iv p2, iv p3, iv (x0 &&& (255 : Int32)), iv 2, iv 128, iv 191, .unset, .unset, .unset] []))
        refine Goes.on (fun t k => XS.goto X0.here hx rfl (pc0 := 54) (pc' := 154) rfl (hb hby d2_54) (by decide) (by decide) k) ?_
        show Goes p e below QQ (s₁.setTop (mkF m 154 #[rv a1, iv p2, iv p3, iv (x0 &&& (255 : Int32)), iv 2, iv 128, iv 191, .unset, .unset, .unset] []))
        refine Goes.on (fun t k => XS.iload X0.here hx rfl (hb hby d2_154) rfl k) ?_
        show Goes p e below QQ (s₁.setTop (mkF m 156 #[rv a1, iv p2, iv p3, iv (x0 &&& (255 : Int32)), iv 2, iv 128, iv 191, .unset, .unset, .unset] [(.int 2)]))
        refine Goes.on (fun t k => XS.ifNo X0.here hx rfl (hb hby d2_156) rfl ((if0 _ _).trans (tlt (by decide)).2.2.2) k) ?_
        show Goes p e below QQ (s₁.setTop (mkF m 159 #[rv a1, iv p2, iv p3, iv (x0 &&& (255 : Int32)), iv 2, iv 128, iv 191, .unset, .unset, .unset] []))
        refine Goes.on (fun t k => XS.iloadN X0.here hx rfl (hb hby d2_159) rfl k) ?_
        show Goes p e below QQ (s₁.setTop (mkF m 160 #[rv a1, iv p2, iv p3, iv (x0 &&& (255 : Int32)), iv 2, iv 128, iv 191, .unset, .unset, .unset] [(.int p2)]))
        refine Goes.on (fun t k => XS.iload X0.here hx rfl (hb hby d2_160) rfl k) ?_
        show Goes p e below QQ (s₁.setTop (mkF m 162 #[rv a1, iv p2, iv p3, iv (x0 &&& (255 : Int32)), iv 2, iv 128, iv 191, .unset, .unset, .unset] [(.int 2), (.int p2)]))
        refine Goes.on (fun t k => XS.iadd X0.here hx rfl (hb hby d2_162) rfl k) ?_
        show Goes p e below QQ (s₁.setTop (mkF m 163 #[rv a1, iv p2, iv p3, iv (x0 &&& (255 : Int32)), iv 2, iv 128, iv 191, .unset, .unset, .unset] [(.int (p2 + (2 : Int32)))]))
        refine Goes.on (fun t k => XS.iloadN X0.here hx rfl (hb hby d2_163) rfl k) ?_
        show Goes p e below QQ (s₁.setTop (mkF m 164 #[rv a1, iv p2, iv p3, iv (x0 &&& (255 : Int32)), iv 2, iv 128, iv 191, .unset, .unset, .unset] [(.int p3), (.int (p2 + (2 : Int32)))]))
        have J8 : ∀ (TJ8 : State) (lJ8 : List Loc), Stand p l e ({ frames := 0, cells := 0, slots := 0, locals := 0 } : Room) s m #[(.ref a1), (.int p2), (.int p3)] below meth c TJ8 lJ8 0 0 → TJ8.heap = h0 → Fr n0 lJ8 → Goes p e below QQ (TJ8.setTop (mkF m 172 #[rv a1, iv p2, iv p3, iv (x0 &&& (255 : Int32)), iv 2, iv 128, iv 191, .unset, .unset, .unset] [(.int (if p3 < (p2 + (2 : Int32)) then (0 : Int32) else (1 : Int32)))])) := by
          intro TJ8 lJ8 XJ8 eJ8 NJ8
          refine Goes.on (fun t k => XS.istore XJ8.here hx rfl (hb hby d2_172) rfl (l' := #[rv a1, iv p2, iv p3, iv (x0 &&& (255 : Int32)), iv 2, iv 128, iv 191, iv (if p3 < (p2 + (2 : Int32)) then (0 : Int32) else (1 : Int32)), .unset, .unset]) rfl k) ?_
          show Goes p e below QQ (TJ8.setTop (mkF m 174 #[rv a1, iv p2, iv p3, iv (x0 &&& (255 : Int32)), iv 2, iv 128, iv 191, iv (if p3 < (p2 + (2 : Int32)) then (0 : Int32) else (1 : Int32)), .unset, .unset] []))
          refine Goes.on (fun t k => XS.iconst XJ8.here hx rfl (hb hby d2_174) k) ?_
          show Goes p e below QQ (TJ8.setTop (mkF m 175 #[rv a1, iv p2, iv p3, iv (x0 &&& (255 : Int32)), iv 2, iv 128, iv 191, iv (if p3 < (p2 + (2 : Int32)) then (0 : Int32) else (1 : Int32)), .unset, .unset] [(.int 1)]))
          refine Goes.on (fun t k => XS.istore XJ8.here hx rfl (hb hby d2_175) rfl (l' := #[rv a1, iv p2, iv p3, iv (x0 &&& (255 : Int32)), iv 2, iv 128, iv 191, iv (if p3 < (p2 + (2 : Int32)) then (0 : Int32) else (1 : Int32)), iv 1, .unset]) rfl k) ?_
          show Goes p e below QQ (TJ8.setTop (mkF m 177 #[rv a1, iv p2, iv p3, iv (x0 &&& (255 : Int32)), iv 2, iv 128, iv 191, iv (if p3 < (p2 + (2 : Int32)) then (0 : Int32) else (1 : Int32)), iv 1, .unset] []))
          refine Goes.on (fun t k => XS.iload XJ8.here hx rfl (hb hby d2_177) rfl k) ?_
          show Goes p e below QQ (TJ8.setTop (mkF m 179 #[rv a1, iv p2, iv p3, iv (x0 &&& (255 : Int32)), iv 2, iv 128, iv 191, iv (if p3 < (p2 + (2 : Int32)) then (0 : Int32) else (1 : Int32)), iv 1, .unset] [(.int (if p3 < (p2 + (2 : Int32)) then (0 : Int32) else (1 : Int32)))]))
          by_cases hb9 : (if p3 < (p2 + (2 : Int32)) then (0 : Int32) else (1 : Int32)) = (0 : Int32)
          · refine Goes.on (fun t k => XS.ifYes XJ8.here hx rfl (pc0 := 179) (pc' := 238) rfl (hb hby d2_179) rfl ((if0 _ _).trans (teq hb9).1) (by decide) (by decide) k) ?_
            show Goes p e below QQ (TJ8.setTop (mkF m 238 #[rv a1, iv p2, iv p3, iv (x0 &&& (255 : Int32)), iv 2, iv 128, iv 191, iv (if p3 < (p2 + (2 : Int32)) then (0 : Int32) else (1 : Int32)), iv 1, .unset] []))
            refine Goes.on (fun t k => XS.iload XJ8.here hx rfl (hb hby d2_238) rfl k) ?_
            show Goes p e below QQ (TJ8.setTop (mkF m 240 #[rv a1, iv p2, iv p3, iv (x0 &&& (255 : Int32)), iv 2, iv 128, iv 191, iv (if p3 < (p2 + (2 : Int32)) then (0 : Int32) else (1 : Int32)), iv 1, .unset] [(.int (if p3 < (p2 + (2 : Int32)) then (0 : Int32) else (1 : Int32)))]))
            refine Goes.on (fun t k => XS.ifYes XJ8.here hx rfl (pc0 := 240) (pc' := 248) rfl (hb hby d2_240) rfl ((if0 _ _).trans (teq hb9).1) (by decide) (by decide) k) ?_
            show Goes p e below QQ (TJ8.setTop (mkF m 248 #[rv a1, iv p2, iv p3, iv (x0 &&& (255 : Int32)), iv 2, iv 128, iv 191, iv (if p3 < (p2 + (2 : Int32)) then (0 : Int32) else (1 : Int32)), iv 1, .unset] []))
            refine Goes.on (fun t k => XS.iconst XJ8.here hx rfl (hb hby d2_248) k) ?_
            show Goes p e below QQ (TJ8.setTop (mkF m 249 #[rv a1, iv p2, iv p3, iv (x0 &&& (255 : Int32)), iv 2, iv 128, iv 191, iv (if p3 < (p2 + (2 : Int32)) then (0 : Int32) else (1 : Int32)), iv 1, .unset] [(.int 0)]))
            exact Goes.rI XJ8 hx hret hlk (hb hby d2_249) hQQ ⟨congrArg (fun z => some (Value.int z)) (((if_neg hb2).trans ((if_neg hb6).trans ((if_pos hb7).trans ((if_pos hb9).trans rfl)))) : (seqF p2 p3 x0 x1 x2 x3) = (0 : Int32)).symm, NJ8, eJ8⟩ (by decide) (by decide)
          · refine Goes.on (fun t k => XS.ifNo XJ8.here hx rfl (hb hby d2_179) rfl ((if0 _ _).trans (feq hb9).1) k) ?_
            show Goes p e below QQ (TJ8.setTop (mkF m 182 #[rv a1, iv p2, iv p3, iv (x0 &&& (255 : Int32)), iv 2, iv 128, iv 191, iv (if p3 < (p2 + (2 : Int32)) then (0 : Int32) else (1 : Int32)), iv 1, .unset] []))
            refine Goes.on (fun t k => XS.iload XJ8.here hx rfl (hb hby d2_182) rfl k) ?_
            show Goes p e below QQ (TJ8.setTop (mkF m 184 #[rv a1, iv p2, iv p3, iv (x0 &&& (255 : Int32)), iv 2, iv 128, iv 191, iv (if p3 < (p2 + (2 : Int32)) then (0 : Int32) else (1 : Int32)), iv 1, .unset] [(.int 1)]))
            refine Goes.on (fun t k => XS.iload XJ8.here hx rfl (hb hby d2_184) rfl k) ?_
            show Goes p e below QQ (TJ8.setTop (mkF m 186 #[rv a1, iv p2, iv p3, iv (x0 &&& (255 : Int32)), iv 2, iv 128, iv 191, iv (if p3 < (p2 + (2 : Int32)) then (0 : Int32) else (1 : Int32)), iv 1, .unset] [(.int 2), (.int 1)]))
            refine Goes.on (fun t k => XS.icmpNo XJ8.here hx rfl (hb hby d2_186) rfl (tlt (by decide)).2.1 k) ?_
            show Goes p e below QQ (TJ8.setTop (mkF m 189 #[rv a1, iv p2, iv p3, iv (x0 &&& (255 : Int32)), iv 2, iv 128, iv 191, iv (if p3 < (p2 + (2 : Int32)) then (0 : Int32) else (1 : Int32)), iv 1, .unset] []))
            refine Goes.on (fun t k => XS.aloadN XJ8.here hx rfl (hb hby d2_189) rfl rfl k) ?_
            show Goes p e below QQ (TJ8.setTop (mkF m 190 #[rv a1, iv p2, iv p3, iv (x0 &&& (255 : Int32)), iv 2, iv 128, iv 191, iv (if p3 < (p2 + (2 : Int32)) then (0 : Int32) else (1 : Int32)), iv 1, .unset] [(.ref a1)]))
            refine Goes.on (fun t k => XS.iloadN XJ8.here hx rfl (hb hby d2_190) rfl k) ?_
            show Goes p e below QQ (TJ8.setTop (mkF m 191 #[rv a1, iv p2, iv p3, iv (x0 &&& (255 : Int32)), iv 2, iv 128, iv 191, iv (if p3 < (p2 + (2 : Int32)) then (0 : Int32) else (1 : Int32)), iv 1, .unset] [(.int p2), (.ref a1)]))
            refine Goes.on (fun t k => XS.iload XJ8.here hx rfl (hb hby d2_191) rfl k) ?_
            show Goes p e below QQ (TJ8.setTop (mkF m 193 #[rv a1, iv p2, iv p3, iv (x0 &&& (255 : Int32)), iv 2, iv 128, iv 191, iv (if p3 < (p2 + (2 : Int32)) then (0 : Int32) else (1 : Int32)), iv 1, .unset] [(.int 1), (.int p2), (.ref a1)]))
            refine Goes.on (fun t k => XS.iadd XJ8.here hx rfl (hb hby d2_193) rfl k) ?_
            show Goes p e below QQ (TJ8.setTop (mkF m 194 #[rv a1, iv p2, iv p3, iv (x0 &&& (255 : Int32)), iv 2, iv 128, iv 191, iv (if p3 < (p2 + (2 : Int32)) then (0 : Int32) else (1 : Int32)), iv 1, .unset] [(.int (p2 + (1 : Int32))), (.ref a1)]))
            obtain ⟨cl10, Ar10, aq10, aS10, aN10, aH10, aG10⟩ := id V_a1
            have hin10 := inb_of (j := (p2 + (1 : Int32))) aS10 I1
            have hat10 := Has.at (v := (.int x1)) aH10 hin10 G1
            refine Goes.on (fun t k => XJ8.baloadBytes hx (j := (p2 + (1 : Int32))) (v := (.int x1)) (by rw [eJ8]; exact Ar10.1) (State.isArrayOf_alike hZ.alike Ar10.2.1) Ar10.2.2 hin10 hat10 (g := (mkF m 194 #[rv a1, iv p2, iv p3, iv (x0 &&& (255 : Int32)), iv 2, iv 128, iv 191, iv (if p3 < (p2 + (2 : Int32)) then (0 : Int32) else (1 : Int32)), iv 1, .unset] [(.int (p2 + (1 : Int32))), (.ref a1)])) rfl rfl (hb hby d2_194) t k) ?_
            show Goes p e below QQ (TJ8.setTop (mkF m 195 #[rv a1, iv p2, iv p3, iv (x0 &&& (255 : Int32)), iv 2, iv 128, iv 191, iv (if p3 < (p2 + (2 : Int32)) then (0 : Int32) else (1 : Int32)), iv 1, .unset] [(.int x1)]))
            refine Goes.on (fun t k => XS.sipush XJ8.here hx rfl (hb hby d2_195) k) ?_
            show Goes p e below QQ (TJ8.setTop (mkF m 198 #[rv a1, iv p2, iv p3, iv (x0 &&& (255 : Int32)), iv 2, iv 128, iv 191, iv (if p3 < (p2 + (2 : Int32)) then (0 : Int32) else (1 : Int32)), iv 1, .unset] [(.int 255), (.int x1)]))
            refine Goes.on (fun t k => XS.iand XJ8.here hx rfl (hb hby d2_198) rfl k) ?_
            show Goes p e below QQ (TJ8.setTop (mkF m 199 #[rv a1, iv p2, iv p3, iv (x0 &&& (255 : Int32)), iv 2, iv 128, iv 191, iv (if p3 < (p2 + (2 : Int32)) then (0 : Int32) else (1 : Int32)), iv 1, .unset] [(.int (x1 &&& (255 : Int32)))]))
            refine Goes.on (fun t k => XS.istore XJ8.here hx rfl (hb hby d2_199) rfl (l' := #[rv a1, iv p2, iv p3, iv (x0 &&& (255 : Int32)), iv 2, iv 128, iv 191, iv (if p3 < (p2 + (2 : Int32)) then (0 : Int32) else (1 : Int32)), iv 1, iv (x1 &&& (255 : Int32))]) rfl k) ?_
            show Goes p e below QQ (TJ8.setTop (mkF m 201 #[rv a1, iv p2, iv p3, iv (x0 &&& (255 : Int32)), iv 2, iv 128, iv 191, iv (if p3 < (p2 + (2 : Int32)) then (0 : Int32) else (1 : Int32)), iv 1, iv (x1 &&& (255 : Int32))] []))
            refine Goes.on (fun t k => XS.iload XJ8.here hx rfl (hb hby d2_201) rfl k) ?_
            show Goes p e below QQ (TJ8.setTop (mkF m 203 #[rv a1, iv p2, iv p3, iv (x0 &&& (255 : Int32)), iv 2, iv 128, iv 191, iv (if p3 < (p2 + (2 : Int32)) then (0 : Int32) else (1 : Int32)), iv 1, iv (x1 &&& (255 : Int32))] [(.int (x1 &&& (255 : Int32)))]))
            refine Goes.on (fun t k => XS.iload XJ8.here hx rfl (hb hby d2_203) rfl k) ?_
            show Goes p e below QQ (TJ8.setTop (mkF m 205 #[rv a1, iv p2, iv p3, iv (x0 &&& (255 : Int32)), iv 2, iv 128, iv 191, iv (if p3 < (p2 + (2 : Int32)) then (0 : Int32) else (1 : Int32)), iv 1, iv (x1 &&& (255 : Int32))] [(.int 128), (.int (x1 &&& (255 : Int32)))]))
            have J11 : ∀ (TJ11 : State) (lJ11 : List Loc), Stand p l e ({ frames := 0, cells := 0, slots := 0, locals := 0 } : Room) s m #[(.ref a1), (.int p2), (.int p3)] below meth c TJ11 lJ11 0 0 → TJ11.heap = h0 → Fr n0 lJ11 → Goes p e below QQ (TJ11.setTop (mkF m 220 #[rv a1, iv p2, iv p3, iv (x0 &&& (255 : Int32)), iv 2, iv 128, iv 191, iv (if p3 < (p2 + (2 : Int32)) then (0 : Int32) else (1 : Int32)), iv 1, iv (x1 &&& (255 : Int32))] [(.int (if (x1 &&& (255 : Int32)) < (128 : Int32) then (0 : Int32) else (if (191 : Int32) < (x1 &&& (255 : Int32)) then (0 : Int32) else (1 : Int32))))])) := by
              intro TJ11 lJ11 XJ11 eJ11 NJ11
              refine Goes.on (fun t k => XS.istore XJ11.here hx rfl (hb hby d2_220) rfl (l' := #[rv a1, iv p2, iv p3, iv (x0 &&& (255 : Int32)), iv 2, iv 128, iv 191, iv (if (x1 &&& (255 : Int32)) < (128 : Int32) then (0 : Int32) else (if (191 : Int32) < (x1 &&& (255 : Int32)) then (0 : Int32) else (1 : Int32))), iv 1, iv (x1 &&& (255 : Int32))]) rfl k) ?_
              show Goes p e below QQ (TJ11.setTop (mkF m 222 #[rv a1, iv p2, iv p3, iv (x0 &&& (255 : Int32)), iv 2, iv 128, iv 191, iv (if (x1 &&& (255 : Int32)) < (128 : Int32) then (0 : Int32) else (if (191 : Int32) < (x1 &&& (255 : Int32)) then (0 : Int32) else (1 : Int32))), iv 1, iv (x1 &&& (255 : Int32))] []))
              refine Goes.on (fun t k => XS.sipush XJ11.here hx rfl (hb hby d2_222) k) ?_
              show Goes p e below QQ (TJ11.setTop (mkF m 225 #[rv a1, iv p2, iv p3, iv (x0 &&& (255 : Int32)), iv 2, iv 128, iv 191, iv (if (x1 &&& (255 : Int32)) < (128 : Int32) then (0 : Int32) else (if (191 : Int32) < (x1 &&& (255 : Int32)) then (0 : Int32) else (1 : Int32))), iv 1, iv (x1 &&& (255 : Int32))] [(.int 128)]))
              refine Goes.on (fun t k => XS.istore XJ11.here hx rfl (hb hby d2_225) rfl (l' := #[rv a1, iv p2, iv p3, iv (x0 &&& (255 : Int32)), iv 2, iv 128, iv 191, iv (if (x1 &&& (255 : Int32)) < (128 : Int32) then (0 : Int32) else (if (191 : Int32) < (x1 &&& (255 : Int32)) then (0 : Int32) else (1 : Int32))), iv 1, iv (x1 &&& (255 : Int32))]) rfl k) ?_
              show Goes p e below QQ (TJ11.setTop (mkF m 227 #[rv a1, iv p2, iv p3, iv (x0 &&& (255 : Int32)), iv 2, iv 128, iv 191, iv (if (x1 &&& (255 : Int32)) < (128 : Int32) then (0 : Int32) else (if (191 : Int32) < (x1 &&& (255 : Int32)) then (0 : Int32) else (1 : Int32))), iv 1, iv (x1 &&& (255 : Int32))] []))
              refine Goes.on (fun t k => XS.sipush XJ11.here hx rfl (hb hby d2_227) k) ?_
              show Goes p e below QQ (TJ11.setTop (mkF m 230 #[rv a1, iv p2, iv p3, iv (x0 &&& (255 : Int32)), iv 2, iv 128, iv 191, iv (if (x1 &&& (255 : Int32)) < (128 : Int32) then (0 : Int32) else (if (191 : Int32) < (x1 &&& (255 : Int32)) then (0 : Int32) else (1 : Int32))), iv 1, iv (x1 &&& (255 : Int32))] [(.int 191)]))
              refine Goes.on (fun t k => XS.istore XJ11.here hx rfl (hb hby d2_230) rfl (l' := #[rv a1, iv p2, iv p3, iv (x0 &&& (255 : Int32)), iv 2, iv 128, iv 191, iv (if (x1 &&& (255 : Int32)) < (128 : Int32) then (0 : Int32) else (if (191 : Int32) < (x1 &&& (255 : Int32)) then (0 : Int32) else (1 : Int32))), iv 1, iv (x1 &&& (255 : Int32))]) rfl k) ?_
              show Goes p e below QQ (TJ11.setTop (mkF m 232 #[rv a1, iv p2, iv p3, iv (x0 &&& (255 : Int32)), iv 2, iv 128, iv 191, iv (if (x1 &&& (255 : Int32)) < (128 : Int32) then (0 : Int32) else (if (191 : Int32) < (x1 &&& (255 : Int32)) then (0 : Int32) else (1 : Int32))), iv 1, iv (x1 &&& (255 : Int32))] []))
              refine Goes.on (fun t k => XS.iinc XJ11.here hx rfl (hb hby d2_232) rfl (l' := #[rv a1, iv p2, iv p3, iv (x0 &&& (255 : Int32)), iv 2, iv 128, iv 191, iv (if (x1 &&& (255 : Int32)) < (128 : Int32) then (0 : Int32) else (if (191 : Int32) < (x1 &&& (255 : Int32)) then (0 : Int32) else (1 : Int32))), iv ((1 : Int32) + (1 : Int32)), iv (x1 &&& (255 : Int32))]) rfl k) ?_
              show Goes p e below QQ (TJ11.setTop (mkF m 235 #[rv a1, iv p2, iv p3, iv (x0 &&& (255 : Int32)), iv 2, iv 128, iv 191, iv (if (x1 &&& (255 : Int32)) < (128 : Int32) then (0 : Int32) else (if (191 : Int32) < (x1 &&& (255 : Int32)) then (0 : Int32) else (1 : Int32))), iv ((1 : Int32) + (1 : Int32)), iv (x1 &&& (255 : Int32))] []))
              rw [(by decide : ((1 : Int32) + (1 : Int32)) = (2 : Int32))]
              show Goes p e below QQ (TJ11.setTop (mkF m 235 #[rv a1, iv p2, iv p3, iv (x0 &&& (255 : Int32)), iv 2, iv 128, iv 191, iv (if (x1 &&& (255 : Int32)) < (128 : Int32) then (0 : Int32) else (if (191 : Int32) < (x1 &&& (255 : Int32)) then (0 : Int32) else (1 : Int32))), iv 2, iv (x1 &&& (255 : Int32))] []))
              refine Goes.on (fun t k => XS.goto XJ11.here hx rfl (pc0 := 235) (pc' := 177) rfl (hb hby d2_235) (by decide) (by decide) k) ?_
              show Goes p e below QQ (TJ11.setTop (mkF m 177 #[rv a1, iv p2, iv p3, iv (x0 &&& (255 : Int32)), iv 2, iv 128, iv 191, iv (if (x1 &&& (255 : Int32)) < (128 : Int32) then (0 : Int32) else (if (191 : Int32) < (x1 &&& (255 : Int32)) then (0 : Int32) else (1 : Int32))), iv 2, iv (x1 &&& (255 : Int32))] []))
              refine Goes.on (fun t k => XS.iload XJ11.here hx rfl (hb hby d2_177) rfl k) ?_
              show Goes p e below QQ (TJ11.setTop (mkF m 179 #[rv a1, iv p2, iv p3, iv (x0 &&& (255 : Int32)), iv 2, iv 128, iv 191, iv (if (x1 &&& (255 : Int32)) < (128 : Int32) then (0 : Int32) else (if (191 : Int32) < (x1 &&& (255 : Int32)) then (0 : Int32) else (1 : Int32))), iv 2, iv (x1 &&& (255 : Int32))] [(.int (if (x1 &&& (255 : Int32)) < (128 : Int32) then (0 : Int32) else (if (191 : Int32) < (x1 &&& (255 : Int32)) then (0 : Int32) else (1 : Int32))))]))
              by_cases hb12 : (if (x1 &&& (255 : Int32)) < (128 : Int32) then (0 : Int32) else (if (191 : Int32) < (x1 &&& (255 : Int32)) then (0 : Int32) else (1 : Int32))) = (0 : Int32)
              · refine Goes.on (fun t k => XS.ifYes XJ11.here hx rfl (pc0 := 179) (pc' := 238) rfl (hb hby d2_179) rfl ((if0 _ _).trans (teq hb12).1) (by decide) (by decide) k) ?_
                show Goes p e below QQ (TJ11.setTop (mkF m 238 #[rv a1, iv p2, iv p3, iv (x0 &&& (255 : Int32)), iv 2, iv 128, iv 191, iv (if (x1 &&& (255 : Int32)) < (128 : Int32) then (0 : Int32) else (if (191 : Int32) < (x1 &&& (255 : Int32)) then (0 : Int32) else (1 : Int32))), iv 2, iv (x1 &&& (255 : Int32))] []))
                refine Goes.on (fun t k => XS.iload XJ11.here hx rfl (hb hby d2_238) rfl k) ?_
                show Goes p e below QQ (TJ11.setTop (mkF m 240 #[rv a1, iv p2, iv p3, iv (x0 &&& (255 : Int32)), iv 2, iv 128, iv 191, iv (if (x1 &&& (255 : Int32)) < (128 : Int32) then (0 : Int32) else (if (191 : Int32) < (x1 &&& (255 : Int32)) then (0 : Int32) else (1 : Int32))), iv 2, iv (x1 &&& (255 : Int32))] [(.int (if (x1 &&& (255 : Int32)) < (128 : Int32) then (0 : Int32) else (if (191 : Int32) < (x1 &&& (255 : Int32)) then (0 : Int32) else (1 : Int32))))]))
                refine Goes.on (fun t k => XS.ifYes XJ11.here hx rfl (pc0 := 240) (pc' := 248) rfl (hb hby d2_240) rfl ((if0 _ _).trans (teq hb12).1) (by decide) (by decide) k) ?_
                show Goes p e below QQ (TJ11.setTop (mkF m 248 #[rv a1, iv p2, iv p3, iv (x0 &&& (255 : Int32)), iv 2, iv 128, iv 191, iv (if (x1 &&& (255 : Int32)) < (128 : Int32) then (0 : Int32) else (if (191 : Int32) < (x1 &&& (255 : Int32)) then (0 : Int32) else (1 : Int32))), iv 2, iv (x1 &&& (255 : Int32))] []))
                refine Goes.on (fun t k => XS.iconst XJ11.here hx rfl (hb hby d2_248) k) ?_
                show Goes p e below QQ (TJ11.setTop (mkF m 249 #[rv a1, iv p2, iv p3, iv (x0 &&& (255 : Int32)), iv 2, iv 128, iv 191, iv (if (x1 &&& (255 : Int32)) < (128 : Int32) then (0 : Int32) else (if (191 : Int32) < (x1 &&& (255 : Int32)) then (0 : Int32) else (1 : Int32))), iv 2, iv (x1 &&& (255 : Int32))] [(.int 0)]))
                exact Goes.rI XJ11 hx hret hlk (hb hby d2_249) hQQ ⟨congrArg (fun z => some (Value.int z)) (((if_neg hb2).trans ((if_neg hb6).trans ((if_pos hb7).trans ((if_neg hb9).trans ((if_pos hb12).trans rfl))))) : (seqF p2 p3 x0 x1 x2 x3) = (0 : Int32)).symm, NJ11, eJ11⟩ (by decide) (by decide)
              · refine Goes.on (fun t k => XS.ifNo XJ11.here hx rfl (hb hby d2_179) rfl ((if0 _ _).trans (feq hb12).1) k) ?_
                show Goes p e below QQ (TJ11.setTop (mkF m 182 #[rv a1, iv p2, iv p3, iv (x0 &&& (255 : Int32)), iv 2, iv 128, iv 191, iv (if (x1 &&& (255 : Int32)) < (128 : Int32) then (0 : Int32) else (if (191 : Int32) < (x1 &&& (255 : Int32)) then (0 : Int32) else (1 : Int32))), iv 2, iv (x1 &&& (255 : Int32))] []))
                refine Goes.on (fun t k => XS.iload XJ11.here hx rfl (hb hby d2_182) rfl k) ?_
                show Goes p e below QQ (TJ11.setTop (mkF m 184 #[rv a1, iv p2, iv p3, iv (x0 &&& (255 : Int32)), iv 2, iv 128, iv 191, iv (if (x1 &&& (255 : Int32)) < (128 : Int32) then (0 : Int32) else (if (191 : Int32) < (x1 &&& (255 : Int32)) then (0 : Int32) else (1 : Int32))), iv 2, iv (x1 &&& (255 : Int32))] [(.int 2)]))
                refine Goes.on (fun t k => XS.iload XJ11.here hx rfl (hb hby d2_184) rfl k) ?_
                show Goes p e below QQ (TJ11.setTop (mkF m 186 #[rv a1, iv p2, iv p3, iv (x0 &&& (255 : Int32)), iv 2, iv 128, iv 191, iv (if (x1 &&& (255 : Int32)) < (128 : Int32) then (0 : Int32) else (if (191 : Int32) < (x1 &&& (255 : Int32)) then (0 : Int32) else (1 : Int32))), iv 2, iv (x1 &&& (255 : Int32))] [(.int 2), (.int 2)]))
                refine Goes.on (fun t k => XS.icmpYes XJ11.here hx rfl (pc0 := 186) (pc' := 238) rfl (hb hby d2_186) rfl (flt (by decide)).2.1 (by decide) (by decide) k) ?_
                show Goes p e below QQ (TJ11.setTop (mkF m 238 #[rv a1, iv p2, iv p3, iv (x0 &&& (255 : Int32)), iv 2, iv 128, iv 191, iv (if (x1 &&& (255 : Int32)) < (128 : Int32) then (0 : Int32) else (if (191 : Int32) < (x1 &&& (255 : Int32)) then (0 : Int32) else (1 : Int32))), iv 2, iv (x1 &&& (255 : Int32))] []))
                refine Goes.on (fun t k => XS.iload XJ11.here hx rfl (hb hby d2_238) rfl k) ?_
                show Goes p e below QQ (TJ11.setTop (mkF m 240 #[rv a1, iv p2, iv p3, iv (x0 &&& (255 : Int32)), iv 2, iv 128, iv 191, iv (if (x1 &&& (255 : Int32)) < (128 : Int32) then (0 : Int32) else (if (191 : Int32) < (x1 &&& (255 : Int32)) then (0 : Int32) else (1 : Int32))), iv 2, iv (x1 &&& (255 : Int32))] [(.int (if (x1 &&& (255 : Int32)) < (128 : Int32) then (0 : Int32) else (if (191 : Int32) < (x1 &&& (255 : Int32)) then (0 : Int32) else (1 : Int32))))]))
                refine Goes.on (fun t k => XS.ifNo XJ11.here hx rfl (hb hby d2_240) rfl ((if0 _ _).trans (feq hb12).1) k) ?_
                show Goes p e below QQ (TJ11.setTop (mkF m 243 #[rv a1, iv p2, iv p3, iv (x0 &&& (255 : Int32)), iv 2, iv 128, iv 191, iv (if (x1 &&& (255 : Int32)) < (128 : Int32) then (0 : Int32) else (if (191 : Int32) < (x1 &&& (255 : Int32)) then (0 : Int32) else (1 : Int32))), iv 2, iv (x1 &&& (255 : Int32))] []))
                refine Goes.on (fun t k => XS.iload XJ11.here hx rfl (hb hby d2_243) rfl k) ?_
                show Goes p e below QQ (TJ11.setTop (mkF m 245 #[rv a1, iv p2, iv p3, iv (x0 &&& (255 : Int32)), iv 2, iv 128, iv 191, iv (if (x1 &&& (255 : Int32)) < (128 : Int32) then (0 : Int32) else (if (191 : Int32) < (x1 &&& (255 : Int32)) then (0 : Int32) else (1 : Int32))), iv 2, iv (x1 &&& (255 : Int32))] [(.int 2)]))
                refine Goes.on (fun t k => XS.goto XJ11.here hx rfl (pc0 := 245) (pc' := 249) rfl (hb hby d2_245) (by decide) (by decide) k) ?_
                show Goes p e below QQ (TJ11.setTop (mkF m 249 #[rv a1, iv p2, iv p3, iv (x0 &&& (255 : Int32)), iv 2, iv 128, iv 191, iv (if (x1 &&& (255 : Int32)) < (128 : Int32) then (0 : Int32) else (if (191 : Int32) < (x1 &&& (255 : Int32)) then (0 : Int32) else (1 : Int32))), iv 2, iv (x1 &&& (255 : Int32))] [(.int 2)]))
                exact Goes.rI XJ11 hx hret hlk (hb hby d2_249) hQQ ⟨congrArg (fun z => some (Value.int z)) (((if_neg hb2).trans ((if_neg hb6).trans ((if_pos hb7).trans ((if_neg hb9).trans ((if_neg hb12).trans rfl))))) : (seqF p2 p3 x0 x1 x2 x3) = (2 : Int32)).symm, NJ11, eJ11⟩ (by decide) (by decide)
            show Goes p e below QQ (TJ8.setTop (mkF m 205 #[rv a1, iv p2, iv p3, iv (x0 &&& (255 : Int32)), iv 2, iv 128, iv 191, iv (if p3 < (p2 + (2 : Int32)) then (0 : Int32) else (1 : Int32)), iv 1, iv (x1 &&& (255 : Int32))] [(.int 128), (.int (x1 &&& (255 : Int32)))]))
            by_cases hb13 : (x1 &&& (255 : Int32)) < (128 : Int32)
            · refine Goes.on (fun t k => XS.icmpYes XJ8.here hx rfl (pc0 := 205) (pc' := 219) rfl (hb hby d2_205) rfl (tlt hb13).1 (by decide) (by decide) k) ?_
              show Goes p e below QQ (TJ8.setTop (mkF m 219 #[rv a1, iv p2, iv p3, iv (x0 &&& (255 : Int32)), iv 2, iv 128, iv 191, iv (if p3 < (p2 + (2 : Int32)) then (0 : Int32) else (1 : Int32)), iv 1, iv (x1 &&& (255 : Int32))] []))
              refine Goes.on (fun t k => XS.iconst XJ8.here hx rfl (hb hby d2_219) k) ?_
              show Goes p e below QQ (TJ8.setTop (mkF m 220 #[rv a1, iv p2, iv p3, iv (x0 &&& (255 : Int32)), iv 2, iv 128, iv 191, iv (if p3 < (p2 + (2 : Int32)) then (0 : Int32) else (1 : Int32)), iv 1, iv (x1 &&& (255 : Int32))] [(.int 0)]))
              rw [(((if_pos hb13).trans rfl) : (if (x1 &&& (255 : Int32)) < (128 : Int32) then (0 : Int32) else (if (191 : Int32) < (x1 &&& (255 : Int32)) then (0 : Int32) else (1 : Int32))) = (0 : Int32))] at J11
              exact J11 _ _ XJ8 eJ8 NJ8
            · refine Goes.on (fun t k => XS.icmpNo XJ8.here hx rfl (hb hby d2_205) rfl (flt hb13).1 k) ?_
              show Goes p e below QQ (TJ8.setTop (mkF m 208 #[rv a1, iv p2, iv p3, iv (x0 &&& (255 : Int32)), iv 2, iv 128, iv 191, iv (if p3 < (p2 + (2 : Int32)) then (0 : Int32) else (1 : Int32)), iv 1, iv (x1 &&& (255 : Int32))] []))
              refine Goes.on (fun t k => XS.iload XJ8.here hx rfl (hb hby d2_208) rfl k) ?_
              show Goes p e below QQ (TJ8.setTop (mkF m 210 #[rv a1, iv p2, iv p3, iv (x0 &&& (255 : Int32)), iv 2, iv 128, iv 191, iv (if p3 < (p2 + (2 : Int32)) then (0 : Int32) else (1 : Int32)), iv 1, iv (x1 &&& (255 : Int32))] [(.int (x1 &&& (255 : Int32)))]))
              refine Goes.on (fun t k => XS.iload XJ8.here hx rfl (hb hby d2_210) rfl k) ?_
              show Goes p e below QQ (TJ8.setTop (mkF m 212 #[rv a1, iv p2, iv p3, iv (x0 &&& (255 : Int32)), iv 2, iv 128, iv 191, iv (if p3 < (p2 + (2 : Int32)) then (0 : Int32) else (1 : Int32)), iv 1, iv (x1 &&& (255 : Int32))] [(.int 191), (.int (x1 &&& (255 : Int32)))]))
              by_cases hb14 : (191 : Int32) < (x1 &&& (255 : Int32))
              · refine Goes.on (fun t k => XS.icmpYes XJ8.here hx rfl (pc0 := 212) (pc' := 219) rfl (hb hby d2_212) rfl (tlt hb14).2.2.1 (by decide) (by decide) k) ?_
                show Goes p e below QQ (TJ8.setTop (mkF m 219 #[rv a1, iv p2, iv p3, iv (x0 &&& (255 : Int32)), iv 2, iv 128, iv 191, iv (if p3 < (p2 + (2 : Int32)) then (0 : Int32) else (1 : Int32)), iv 1, iv (x1 &&& (255 : Int32))] []))
                refine Goes.on (fun t k => XS.iconst XJ8.here hx rfl (hb hby d2_219) k) ?_
                show Goes p e below QQ (TJ8.setTop (mkF m 220 #[rv a1, iv p2, iv p3, iv (x0 &&& (255 : Int32)), iv 2, iv 128, iv 191, iv (if p3 < (p2 + (2 : Int32)) then (0 : Int32) else (1 : Int32)), iv 1, iv (x1 &&& (255 : Int32))] [(.int 0)]))
                rw [(((if_neg hb13).trans ((if_pos hb14).trans rfl)) : (if (x1 &&& (255 : Int32)) < (128 : Int32) then (0 : Int32) else (if (191 : Int32) < (x1 &&& (255 : Int32)) then (0 : Int32) else (1 : Int32))) = (0 : Int32))] at J11
                exact J11 _ _ XJ8 eJ8 NJ8
              · refine Goes.on (fun t k => XS.icmpNo XJ8.here hx rfl (hb hby d2_212) rfl (flt hb14).2.2.1 k) ?_
                show Goes p e below QQ (TJ8.setTop (mkF m 215 #[rv a1, iv p2, iv p3, iv (x0 &&& (255 : Int32)), iv 2, iv 128, iv 191, iv (if p3 < (p2 + (2 : Int32)) then (0 : Int32) else (1 : Int32)), iv 1, iv (x1 &&& (255 : Int32))] []))
                refine Goes.on (fun t k => XS.iconst XJ8.here hx rfl (hb hby d2_215) k) ?_
                show Goes p e below QQ (TJ8.setTop (mkF m 216 #[rv a1, iv p2, iv p3, iv (x0 &&& (255 : Int32)), iv 2, iv 128, iv 191, iv (if p3 < (p2 + (2 : Int32)) then (0 : Int32) else (1 : Int32)), iv 1, iv (x1 &&& (255 : Int32))] [(.int 1)]))
                refine Goes.on (fun t k => XS.goto XJ8.here hx rfl (pc0 := 216) (pc' := 220) rfl (hb hby d2_216) (by decide) (by decide) k) ?_
                show Goes p e below QQ (TJ8.setTop (mkF m 220 #[rv a1, iv p2, iv p3, iv (x0 &&& (255 : Int32)), iv 2, iv 128, iv 191, iv (if p3 < (p2 + (2 : Int32)) then (0 : Int32) else (1 : Int32)), iv 1, iv (x1 &&& (255 : Int32))] [(.int 1)]))
                rw [(((if_neg hb13).trans ((if_neg hb14).trans rfl)) : (if (x1 &&& (255 : Int32)) < (128 : Int32) then (0 : Int32) else (if (191 : Int32) < (x1 &&& (255 : Int32)) then (0 : Int32) else (1 : Int32))) = (1 : Int32))] at J11
                exact J11 _ _ XJ8 eJ8 NJ8
        show Goes p e below QQ (s₁.setTop (mkF m 164 #[rv a1, iv p2, iv p3, iv (x0 &&& (255 : Int32)), iv 2, iv 128, iv 191, .unset, .unset, .unset] [(.int p3), (.int (p2 + (2 : Int32)))]))
        by_cases hb15 : p3 < (p2 + (2 : Int32))
        · refine Goes.on (fun t k => XS.icmpYes X0.here hx rfl (pc0 := 164) (pc' := 171) rfl (hb hby d2_164) rfl (tlt hb15).2.2.1 (by decide) (by decide) k) ?_
          show Goes p e below QQ (s₁.setTop (mkF m 171 #[rv a1, iv p2, iv p3, iv (x0 &&& (255 : Int32)), iv 2, iv 128, iv 191, .unset, .unset, .unset] []))
          refine Goes.on (fun t k => XS.iconst X0.here hx rfl (hb hby d2_171) k) ?_
          show Goes p e below QQ (s₁.setTop (mkF m 172 #[rv a1, iv p2, iv p3, iv (x0 &&& (255 : Int32)), iv 2, iv 128, iv 191, .unset, .unset, .unset] [(.int 0)]))
          rw [(((if_pos hb15).trans rfl) : (if p3 < (p2 + (2 : Int32)) then (0 : Int32) else (1 : Int32)) = (0 : Int32))] at J8
          exact J8 _ _ X0 e0 N0
        · refine Goes.on (fun t k => XS.icmpNo X0.here hx rfl (hb hby d2_164) rfl (flt hb15).2.2.1 k) ?_
          show Goes p e below QQ (s₁.setTop (mkF m 167 #[rv a1, iv p2, iv p3, iv (x0 &&& (255 : Int32)), iv 2, iv 128, iv 191, .unset, .unset, .unset] []))
          refine Goes.on (fun t k => XS.iconst X0.here hx rfl (hb hby d2_167) k) ?_
          show Goes p e below QQ (s₁.setTop (mkF m 168 #[rv a1, iv p2, iv p3, iv (x0 &&& (255 : Int32)), iv 2, iv 128, iv 191, .unset, .unset, .unset] [(.int 1)]))
          refine Goes.on (fun t k => XS.goto X0.here hx rfl (pc0 := 168) (pc' := 172) rfl (hb hby d2_168) (by decide) (by decide) k) ?_
          show Goes p e below QQ (s₁.setTop (mkF m 172 #[rv a1, iv p2, iv p3, iv (x0 &&& (255 : Int32)), iv 2, iv 128, iv 191, .unset, .unset, .unset] [(.int 1)]))
          rw [(((if_neg hb15).trans rfl) : (if p3 < (p2 + (2 : Int32)) then (0 : Int32) else (1 : Int32)) = (1 : Int32))] at J8
          exact J8 _ _ X0 e0 N0
      · refine Goes.on (fun t k => XS.icmpYes X0.here hx rfl (pc0 := 48) (pc' := 57) rfl (hb hby d2_48) rfl (flt hb7).2.1 (by decide) (by decide) k) ?_
        show Goes p e below QQ (s₁.setTop (mkF m 57 #[rv a1, iv p2, iv p3, iv (x0 &&& (255 : Int32)), .unset, iv 128, iv 191, .unset, .unset, .unset] []))
        refine Goes.on (fun t k => XS.iloadN X0.here hx rfl (hb hby d2_57) rfl k) ?_
        show Goes p e below QQ (s₁.setTop (mkF m 58 #[rv a1, iv p2, iv p3, iv (x0 &&& (255 : Int32)), .unset, iv 128, iv 191, .unset, .unset, .unset] [(.int (x0 &&& (255 : Int32)))]))
        refine Goes.on (fun t k => XS.sipush X0.here hx rfl (hb hby d2_58) k) ?_
        show Goes p e below QQ (s₁.setTop (mkF m 61 #[rv a1, iv p2, iv p3, iv (x0 &&& (255 : Int32)), .unset, iv 128, iv 191, .unset, .unset, .unset] [(.int 240), (.int (x0 &&& (255 : Int32)))]))
        by_cases hb16 : (x0 &&& (255 : Int32)) < (240 : Int32)
        · refine Goes.on (fun t k => XS.icmpNo X0.here hx rfl (hb hby d2_61) rfl (tlt hb16).2.1 k) ?_
          show Goes p e below QQ (s₁.setTop (mkF m 64 #[rv a1, iv p2, iv p3, iv (x0 &&& (255 : Int32)), .unset, iv 128, iv 191, .unset, .unset, .unset] []))
          refine Goes.on (fun t k => XS.iconst X0.here hx rfl (hb hby d2_64) k) ?_
          show Goes p e below QQ (s₁.setTop (mkF m 65 #[rv a1, iv p2, iv p3, iv (x0 &&& (255 : Int32)), .unset, iv 128, iv 191, .unset, .unset, .unset] [(.int 3)]))
          refine Goes.on (fun t k => XS.istore X0.here hx rfl (hb hby d2_65) rfl (l' := #[rv a1, iv p2, iv p3, iv (x0 &&& (255 : Int32)), iv 3, iv 128, iv 191, .unset, .unset, .unset]) rfl k) ?_
          show Goes p e below QQ (s₁.setTop (mkF m 67 #[rv a1, iv p2, iv p3, iv (x0 &&& (255 : Int32)), iv 3, iv 128, iv 191, .unset, .unset, .unset] []))
          refine Goes.on (fun t k => XS.iloadN X0.here hx rfl (hb hby d2_67) rfl k) ?_
          show Goes p e below QQ (s₁.setTop (mkF m 68 #[rv a1, iv p2, iv p3, iv (x0 &&& (255 : Int32)), iv 3, iv 128, iv 191, .unset, .unset, .unset] [(.int (x0 &&& (255 : Int32)))]))
          refine Goes.on (fun t k => XS.sipush X0.here hx rfl (hb hby d2_68) k) ?_
          show Goes p e below QQ (s₁.setTop (mkF m 71 #[rv a1, iv p2, iv p3, iv (x0 &&& (255 : Int32)), iv 3, iv 128, iv 191, .unset, .unset, .unset] [(.int 224), (.int (x0 &&& (255 : Int32)))]))
          have J17 : ∀ (TJ17 : State) (lJ17 : List Loc), Stand p l e ({ frames := 0, cells := 0, slots := 0, locals := 0 } : Room) s m #[(.ref a1), (.int p2), (.int p3)] below meth c TJ17 lJ17 0 0 → TJ17.heap = h0 → Fr n0 lJ17 → Goes p e below QQ (TJ17.setTop (mkF m 82 #[rv a1, iv p2, iv p3, iv (x0 &&& (255 : Int32)), iv 3, iv 128, iv 191, .unset, .unset, .unset] [(.int (if (x0 &&& (255 : Int32)) = (224 : Int32) then (160 : Int32) else (128 : Int32)))])) := by
            intro TJ17 lJ17 XJ17 eJ17 NJ17
            refine Goes.on (fun t k => XS.istore XJ17.here hx rfl (hb hby d2_82) rfl (l' := #[rv a1, iv p2, iv p3, iv (x0 &&& (255 : Int32)), iv 3, iv (if (x0 &&& (255 : Int32)) = (224 : Int32) then (160 : Int32) else (128 : Int32)), iv 191, .unset, .unset, .unset]) rfl k) ?_
            show Goes p e below QQ (TJ17.setTop (mkF m 84 #[rv a1, iv p2, iv p3, iv (x0 &&& (255 : Int32)), iv 3, iv (if (x0 &&& (255 : Int32)) = (224 : Int32) then (160 : Int32) else (128 : Int32)), iv 191, .unset, .unset, .unset] []))
            refine Goes.on (fun t k => XS.iloadN XJ17.here hx rfl (hb hby d2_84) rfl k) ?_
            show Goes p e below QQ (TJ17.setTop (mkF m 85 #[rv a1, iv p2, iv p3, iv (x0 &&& (255 : Int32)), iv 3, iv (if (x0 &&& (255 : Int32)) = (224 : Int32) then (160 : Int32) else (128 : Int32)), iv 191, .unset, .unset, .unset] [(.int (x0 &&& (255 : Int32)))]))
            refine Goes.on (fun t k => XS.sipush XJ17.here hx rfl (hb hby d2_85) k) ?_
            show Goes p e below QQ (TJ17.setTop (mkF m 88 #[rv a1, iv p2, iv p3, iv (x0 &&& (255 : Int32)), iv 3, iv (if (x0 &&& (255 : Int32)) = (224 : Int32) then (160 : Int32) else (128 : Int32)), iv 191, .unset, .unset, .unset] [(.int 237), (.int (x0 &&& (255 : Int32)))]))
            have J18 : ∀ (TJ18 : State) (lJ18 : List Loc), Stand p l e ({ frames := 0, cells := 0, slots := 0, locals := 0 } : Room) s m #[(.ref a1), (.int p2), (.int p3)] below meth c TJ18 lJ18 0 0 → TJ18.heap = h0 → Fr n0 lJ18 → Goes p e below QQ (TJ18.setTop (mkF m 99 #[rv a1, iv p2, iv p3, iv (x0 &&& (255 : Int32)), iv 3, iv (if (x0 &&& (255 : Int32)) = (224 : Int32) then (160 : Int32) else (128 : Int32)), iv 191, .unset, .unset, .unset] [(.int (if (x0 &&& (255 : Int32)) = (237 : Int32) then (159 : Int32) else (191 : Int32)))])) := by
              intro TJ18 lJ18 XJ18 eJ18 NJ18
              refine Goes.on (fun t k => XS.istore XJ18.here hx rfl (hb hby d2_99) rfl (l' := #[rv a1, iv p2, iv p3, iv (x0 &&& (255 : Int32)), iv 3, iv (if (x0 &&& (255 : Int32)) = (224 : Int32) then (160 : Int32) else (128 : Int32)), iv (if (x0 &&& (255 : Int32)) = (237 : Int32) then (159 : Int32) else (191 : Int32)), .unset, .unset, .unset]) rfl k) ?_
              show Goes p e below QQ (TJ18.setTop (mkF m 101 #[rv a1, iv p2, iv p3, iv (x0 &&& (255 : Int32)), iv 3, iv (if (x0 &&& (255 : Int32)) = (224 : Int32) then (160 : Int32) else (128 : Int32)), iv (if (x0 &&& (255 : Int32)) = (237 : Int32) then (159 : Int32) else (191 : Int32)), .unset, .unset, .unset] []))
              refine Goes.on (fun t k => XS.goto XJ18.here hx rfl (pc0 := 101) (pc' := 154) rfl (hb hby d2_101) (by decide) (by decide) k) ?_
              show Goes p e below QQ (TJ18.setTop (mkF m 154 #[rv a1, iv p2, iv p3, iv (x0 &&& (255 : Int32)), iv 3, iv (if (x0 &&& (255 : Int32)) = (224 : Int32) then (160 : Int32) else (128 : Int32)), iv (if (x0 &&& (255 : Int32)) = (237 : Int32) then (159 : Int32) else (191 : Int32)), .unset, .unset, .unset] []))
              refine Goes.on (fun t k => XS.iload XJ18.here hx rfl (hb hby d2_154) rfl k) ?_
              show Goes p e below QQ (TJ18.setTop (mkF m 156 #[rv a1, iv p2, iv p3, iv (x0 &&& (255 : Int32)), iv 3, iv (if (x0 &&& (255 : Int32)) = (224 : Int32) then (160 : Int32) else (128 : Int32)), iv (if (x0 &&& (255 : Int32)) = (237 : Int32) then (159 : Int32) else (191 : Int32)), .unset, .unset, .unset] [(.int 3)]))
              refine Goes.on (fun t k => XS.ifNo XJ18.here hx rfl (hb hby d2_156) rfl ((if0 _ _).trans (tlt (by decide)).2.2.2) k) ?_
              show Goes p e below QQ (TJ18.setTop (mkF m 159 #[rv a1, iv p2, iv p3, iv (x0 &&& (255 : Int32)), iv 3, iv (if (x0 &&& (255 : Int32)) = (224 : Int32) then (160 : Int32) else (128 : Int32)), iv (if (x0 &&& (255 : Int32)) = (237 : Int32) then (159 : Int32) else (191 : Int32)), .unset, .unset, .unset] []))
              refine Goes.on (fun t k => XS.iloadN XJ18.here hx rfl (hb hby d2_159) rfl k) ?_
              show Goes p e below QQ (TJ18.setTop (mkF m 160 #[rv a1, iv p2, iv p3, iv (x0 &&& (255 : Int32)), iv 3, iv (if (x0 &&& (255 : Int32)) = (224 : Int32) then (160 : Int32) else (128 : Int32)), iv (if (x0 &&& (255 : Int32)) = (237 : Int32) then (159 : Int32) else (191 : Int32)), .unset, .unset, .unset] [(.int p2)]))
              refine Goes.on (fun t k => XS.iload XJ18.here hx rfl (hb hby d2_160) rfl k) ?_
              show Goes p e below QQ (TJ18.setTop (mkF m 162 #[rv a1, iv p2, iv p3, iv (x0 &&& (255 : Int32)), iv 3, iv (if (x0 &&& (255 : Int32)) = (224 : Int32) then (160 : Int32) else (128 : Int32)), iv (if (x0 &&& (255 : Int32)) = (237 : Int32) then (159 : Int32) else (191 : Int32)), .unset, .unset, .unset] [(.int 3), (.int p2)]))
              refine Goes.on (fun t k => XS.iadd XJ18.here hx rfl (hb hby d2_162) rfl k) ?_
              show Goes p e below QQ (TJ18.setTop (mkF m 163 #[rv a1, iv p2, iv p3, iv (x0 &&& (255 : Int32)), iv 3, iv (if (x0 &&& (255 : Int32)) = (224 : Int32) then (160 : Int32) else (128 : Int32)), iv (if (x0 &&& (255 : Int32)) = (237 : Int32) then (159 : Int32) else (191 : Int32)), .unset, .unset, .unset] [(.int (p2 + (3 : Int32)))]))
              refine Goes.on (fun t k => XS.iloadN XJ18.here hx rfl (hb hby d2_163) rfl k) ?_
              show Goes p e below QQ (TJ18.setTop (mkF m 164 #[rv a1, iv p2, iv p3, iv (x0 &&& (255 : Int32)), iv 3, iv (if (x0 &&& (255 : Int32)) = (224 : Int32) then (160 : Int32) else (128 : Int32)), iv (if (x0 &&& (255 : Int32)) = (237 : Int32) then (159 : Int32) else (191 : Int32)), .unset, .unset, .unset] [(.int p3), (.int (p2 + (3 : Int32)))]))
              have J19 : ∀ (TJ19 : State) (lJ19 : List Loc), Stand p l e ({ frames := 0, cells := 0, slots := 0, locals := 0 } : Room) s m #[(.ref a1), (.int p2), (.int p3)] below meth c TJ19 lJ19 0 0 → TJ19.heap = h0 → Fr n0 lJ19 → Goes p e below QQ (TJ19.setTop (mkF m 172 #[rv a1, iv p2, iv p3, iv (x0 &&& (255 : Int32)), iv 3, iv (if (x0 &&& (255 : Int32)) = (224 : Int32) then (160 : Int32) else (128 : Int32)), iv (if (x0 &&& (255 : Int32)) = (237 : Int32) then (159 : Int32) else (191 : Int32)), .unset, .unset, .unset] [(.int (if p3 < (p2 + (3 : Int32)) then (0 : Int32) else (1 : Int32)))])) := by
                intro TJ19 lJ19 XJ19 eJ19 NJ19
                refine Goes.on (fun t k => XS.istore XJ19.here hx rfl (hb hby d2_172) rfl (l' := #[rv a1, iv p2, iv p3, iv (x0 &&& (255 : Int32)), iv 3, iv (if (x0 &&& (255 : Int32)) = (224 : Int32) then (160 : Int32) else (128 : Int32)), iv (if (x0 &&& (255 : Int32)) = (237 : Int32) then (159 : Int32) else (191 : Int32)), iv (if p3 < (p2 + (3 : Int32)) then (0 : Int32) else (1 : Int32)), .unset, .unset]) rfl k) ?_
                show Goes p e below QQ (TJ19.setTop (mkF m 174 #[rv a1, iv p2, iv p3, iv (x0 &&& (255 : Int32)), iv 3, iv (if (x0 &&& (255 : Int32)) = (224 : Int32) then (160 : Int32) else (128 : Int32)), iv (if (x0 &&& (255 : Int32)) = (237 : Int32) then (159 : Int32) else (191 : Int32)), iv (if p3 < (p2 + (3 : Int32)) then (0 : Int32) else (1 : Int32)), .unset, .unset] []))
                refine Goes.on (fun t k => XS.iconst XJ19.here hx rfl (hb hby d2_174) k) ?_
                show Goes p e below QQ (TJ19.setTop (mkF m 175 #[rv a1, iv p2, iv p3, iv (x0 &&& (255 : Int32)), iv 3, iv (if (x0 &&& (255 : Int32)) = (224 : Int32) then (160 : Int32) else (128 : Int32)), iv (if (x0 &&& (255 : Int32)) = (237 : Int32) then (159 : Int32) else (191 : Int32)), iv (if p3 < (p2 + (3 : Int32)) then (0 : Int32) else (1 : Int32)), .unset, .unset] [(.int 1)]))
                refine Goes.on (fun t k => XS.istore XJ19.here hx rfl (hb hby d2_175) rfl (l' := #[rv a1, iv p2, iv p3, iv (x0 &&& (255 : Int32)), iv 3, iv (if (x0 &&& (255 : Int32)) = (224 : Int32) then (160 : Int32) else (128 : Int32)), iv (if (x0 &&& (255 : Int32)) = (237 : Int32) then (159 : Int32) else (191 : Int32)), iv (if p3 < (p2 + (3 : Int32)) then (0 : Int32) else (1 : Int32)), iv 1, .unset]) rfl k) ?_
                show Goes p e below QQ (TJ19.setTop (mkF m 177 #[rv a1, iv p2, iv p3, iv (x0 &&& (255 : Int32)), iv 3, iv (if (x0 &&& (255 : Int32)) = (224 : Int32) then (160 : Int32) else (128 : Int32)), iv (if (x0 &&& (255 : Int32)) = (237 : Int32) then (159 : Int32) else (191 : Int32)), iv (if p3 < (p2 + (3 : Int32)) then (0 : Int32) else (1 : Int32)), iv 1, .unset] []))
                refine Goes.on (fun t k => XS.iload XJ19.here hx rfl (hb hby d2_177) rfl k) ?_
                show Goes p e below QQ (TJ19.setTop (mkF m 179 #[rv a1, iv p2, iv p3, iv (x0 &&& (255 : Int32)), iv 3, iv (if (x0 &&& (255 : Int32)) = (224 : Int32) then (160 : Int32) else (128 : Int32)), iv (if (x0 &&& (255 : Int32)) = (237 : Int32) then (159 : Int32) else (191 : Int32)), iv (if p3 < (p2 + (3 : Int32)) then (0 : Int32) else (1 : Int32)), iv 1, .unset] [(.int (if p3 < (p2 + (3 : Int32)) then (0 : Int32) else (1 : Int32)))]))
                by_cases hb20 : (if p3 < (p2 + (3 : Int32)) then (0 : Int32) else (1 : Int32)) = (0 : Int32)
                · refine Goes.on (fun t k => XS.ifYes XJ19.here hx rfl (pc0 := 179) (pc' := 238) rfl (hb hby d2_179) rfl ((if0 _ _).trans (teq hb20).1) (by decide) (by decide) k) ?_
                  show Goes p e below QQ (TJ19.setTop (mkF m 238 #[rv a1, iv p2, iv p3, iv (x0 &&& (255 : Int32)), iv 3, iv (if (x0 &&& (255 : Int32)) = (224 : Int32) then (160 : Int32) else (128 : Int32)), iv (if (x0 &&& (255 : Int32)) = (237 : Int32) then (159 : Int32) else (191 : Int32)), iv (if p3 < (p2 + (3 : Int32)) then (0 : Int32) else (1 : Int32)), iv 1, .unset] []))
                  refine Goes.on (fun t k => XS.iload XJ19.here hx rfl (hb hby d2_238) rfl k) ?_
                  show Goes p e below QQ (TJ19.setTop (mkF m 240 #[rv a1, iv p2, iv p3, iv (x0 &&& (255 : Int32)), iv 3, iv (if (x0 &&& (255 : Int32)) = (224 : Int32) then (160 : Int32) else (128 : Int32)), iv (if (x0 &&& (255 : Int32)) = (237 : Int32) then (159 : Int32) else (191 : Int32)), iv (if p3 < (p2 + (3 : Int32)) then (0 : Int32) else (1 : Int32)), iv 1, .unset] [(.int (if p3 < (p2 + (3 : Int32)) then (0 : Int32) else (1 : Int32)))]))
                  refine Goes.on (fun t k => XS.ifYes XJ19.here hx rfl (pc0 := 240) (pc' := 248) rfl (hb hby d2_240) rfl ((if0 _ _).trans (teq hb20).1) (by decide) (by decide) k) ?_
                  show Goes p e below QQ (TJ19.setTop (mkF m 248 #[rv a1, iv p2, iv p3, iv (x0 &&& (255 : Int32)), iv 3, iv (if (x0 &&& (255 : Int32)) = (224 : Int32) then (160 : Int32) else (128 : Int32)), iv (if (x0 &&& (255 : Int32)) = (237 : Int32) then (159 : Int32) else (191 : Int32)), iv (if p3 < (p2 + (3 : Int32)) then (0 : Int32) else (1 : Int32)), iv 1, .unset] []))
                  refine Goes.on (fun t k => XS.iconst XJ19.here hx rfl (hb hby d2_248) k) ?_
                  show Goes p e below QQ (TJ19.setTop (mkF m 249 #[rv a1, iv p2, iv p3, iv (x0 &&& (255 : Int32)), iv 3, iv (if (x0 &&& (255 : Int32)) = (224 : Int32) then (160 : Int32) else (128 : Int32)), iv (if (x0 &&& (255 : Int32)) = (237 : Int32) then (159 : Int32) else (191 : Int32)), iv (if p3 < (p2 + (3 : Int32)) then (0 : Int32) else (1 : Int32)), iv 1, .unset] [(.int 0)]))
                  exact Goes.rI XJ19 hx hret hlk (hb hby d2_249) hQQ ⟨congrArg (fun z => some (Value.int z)) (((if_neg hb2).trans ((if_neg hb6).trans ((if_neg hb7).trans ((if_pos hb16).trans ((if_pos hb20).trans rfl))))) : (seqF p2 p3 x0 x1 x2 x3) = (0 : Int32)).symm, NJ19, eJ19⟩ (by decide) (by decide)
                · refine Goes.on (fun t k => XS.ifNo XJ19.here hx rfl (hb hby d2_179) rfl ((if0 _ _).trans (feq hb20).1) k) ?_
                  show Goes p e below QQ (TJ19.setTop (mkF m 182 #[rv a1, iv p2, iv p3, iv (x0 &&& (255 : Int32)), iv 3, iv (if (x0 &&& (255 : Int32)) = (224 : Int32) then (160 : Int32) else (128 : Int32)), iv (if (x0 &&& (255 : Int32)) = (237 : Int32) then (159 : Int32) else (191 : Int32)), iv (if p3 < (p2 + (3 : Int32)) then (0 : Int32) else (1 : Int32)), iv 1, .unset] []))
                  refine Goes.on (fun t k => XS.iload XJ19.here hx rfl (hb hby d2_182) rfl k) ?_
                  show Goes p e below QQ (TJ19.setTop (mkF m 184 #[rv a1, iv p2, iv p3, iv (x0 &&& (255 : Int32)), iv 3, iv (if (x0 &&& (255 : Int32)) = (224 : Int32) then (160 : Int32) else (128 : Int32)), iv (if (x0 &&& (255 : Int32)) = (237 : Int32) then (159 : Int32) else (191 : Int32)), iv (if p3 < (p2 + (3 : Int32)) then (0 : Int32) else (1 : Int32)), iv 1, .unset] [(.int 1)]))
                  refine Goes.on (fun t k => XS.iload XJ19.here hx rfl (hb hby d2_184) rfl k) ?_
                  show Goes p e below QQ (TJ19.setTop (mkF m 186 #[rv a1, iv p2, iv p3, iv (x0 &&& (255 : Int32)), iv 3, iv (if (x0 &&& (255 : Int32)) = (224 : Int32) then (160 : Int32) else (128 : Int32)), iv (if (x0 &&& (255 : Int32)) = (237 : Int32) then (159 : Int32) else (191 : Int32)), iv (if p3 < (p2 + (3 : Int32)) then (0 : Int32) else (1 : Int32)), iv 1, .unset] [(.int 3), (.int 1)]))
                  refine Goes.on (fun t k => XS.icmpNo XJ19.here hx rfl (hb hby d2_186) rfl (tlt (by decide)).2.1 k) ?_
                  show Goes p e below QQ (TJ19.setTop (mkF m 189 #[rv a1, iv p2, iv p3, iv (x0 &&& (255 : Int32)), iv 3, iv (if (x0 &&& (255 : Int32)) = (224 : Int32) then (160 : Int32) else (128 : Int32)), iv (if (x0 &&& (255 : Int32)) = (237 : Int32) then (159 : Int32) else (191 : Int32)), iv (if p3 < (p2 + (3 : Int32)) then (0 : Int32) else (1 : Int32)), iv 1, .unset] []))
                  refine Goes.on (fun t k => XS.aloadN XJ19.here hx rfl (hb hby d2_189) rfl rfl k) ?_
                  show Goes p e below QQ (TJ19.setTop (mkF m 190 #[rv a1, iv p2, iv p3, iv (x0 &&& (255 : Int32)), iv 3, iv (if (x0 &&& (255 : Int32)) = (224 : Int32) then (160 : Int32) else (128 : Int32)), iv (if (x0 &&& (255 : Int32)) = (237 : Int32) then (159 : Int32) else (191 : Int32)), iv (if p3 < (p2 + (3 : Int32)) then (0 : Int32) else (1 : Int32)), iv 1, .unset] [(.ref a1)]))
                  refine Goes.on (fun t k => XS.iloadN XJ19.here hx rfl (hb hby d2_190) rfl k) ?_
                  show Goes p e below QQ (TJ19.setTop (mkF m 191 #[rv a1, iv p2, iv p3, iv (x0 &&& (255 : Int32)), iv 3, iv (if (x0 &&& (255 : Int32)) = (224 : Int32) then (160 : Int32) else (128 : Int32)), iv (if (x0 &&& (255 : Int32)) = (237 : Int32) then (159 : Int32) else (191 : Int32)), iv (if p3 < (p2 + (3 : Int32)) then (0 : Int32) else (1 : Int32)), iv 1, .unset] [(.int p2), (.ref a1)]))
                  refine Goes.on (fun t k => XS.iload XJ19.here hx rfl (hb hby d2_191) rfl k) ?_
                  show Goes p e below QQ (TJ19.setTop (mkF m 193 #[rv a1, iv p2, iv p3, iv (x0 &&& (255 : Int32)), iv 3, iv (if (x0 &&& (255 : Int32)) = (224 : Int32) then (160 : Int32) else (128 : Int32)), iv (if (x0 &&& (255 : Int32)) = (237 : Int32) then (159 : Int32) else (191 : Int32)), iv (if p3 < (p2 + (3 : Int32)) then (0 : Int32) else (1 : Int32)), iv 1, .unset] [(.int 1), (.int p2), (.ref a1)]))
                  refine Goes.on (fun t k => XS.iadd XJ19.here hx rfl (hb hby d2_193) rfl k) ?_
                  show Goes p e below QQ (TJ19.setTop (mkF m 194 #[rv a1, iv p2, iv p3, iv (x0 &&& (255 : Int32)), iv 3, iv (if (x0 &&& (255 : Int32)) = (224 : Int32) then (160 : Int32) else (128 : Int32)), iv (if (x0 &&& (255 : Int32)) = (237 : Int32) then (159 : Int32) else (191 : Int32)), iv (if p3 < (p2 + (3 : Int32)) then (0 : Int32) else (1 : Int32)), iv 1, .unset] [(.int (p2 + (1 : Int32))), (.ref a1)]))
                  obtain ⟨cl21, Ar21, aq21, aS21, aN21, aH21, aG21⟩ := id V_a1
                  have hin21 := inb_of (j := (p2 + (1 : Int32))) aS21 I1
                  have hat21 := Has.at (v := (.int x1)) aH21 hin21 G1
                  refine Goes.on (fun t k => XJ19.baloadBytes hx (j := (p2 + (1 : Int32))) (v := (.int x1)) (by rw [eJ19]; exact Ar21.1) (State.isArrayOf_alike hZ.alike Ar21.2.1) Ar21.2.2 hin21 hat21 (g := (mkF m 194 #[rv a1, iv p2, iv p3, iv (x0 &&& (255 : Int32)), iv 3, iv (if (x0 &&& (255 : Int32)) = (224 : Int32) then (160 : Int32) else (128 : Int32)), iv (if (x0 &&& (255 : Int32)) = (237 : Int32) then (159 : Int32) else (191 : Int32)), iv (if p3 < (p2 + (3 : Int32)) then (0 : Int32) else (1 : Int32)), iv 1, .unset] [(.int (p2 + (1 : Int32))), (.ref a1)])) rfl rfl (hb hby d2_194) t k) ?_
                  show Goes p e below QQ (TJ19.setTop (mkF m 195 #[rv a1, iv p2, iv p3, iv (x0 &&& (255 : Int32)), iv 3, iv (if (x0 &&& (255 : Int32)) = (224 : Int32) then (160 : Int32) else (128 : Int32)), iv (if (x0 &&& (255 : Int32)) = (237 : Int32) then (159 : Int32) else (191 : Int32)), iv (if p3 < (p2 + (3 : Int32)) then (0 : Int32) else (1 : Int32)), iv 1, .unset] [(.int x1)]))
                  refine Goes.on (fun t k => XS.sipush XJ19.here hx rfl (hb hby d2_195) k) ?_
                  show Goes p e below QQ (TJ19.setTop (mkF m 198 #[rv a1, iv p2, iv p3, iv (x0 &&& (255 : Int32)), iv 3, iv (if (x0 &&& (255 : Int32)) = (224 : Int32) then (160 : Int32) else (128 : Int32)), iv (if (x0 &&& (255 : Int32)) = (237 : Int32) then (159 : Int32) else (191 : Int32)), iv (if p3 < (p2 + (3 : Int32)) then (0 : Int32) else (1 : Int32)), iv 1, .unset] [(.int 255), (.int x1)]))
                  refine Goes.on (fun t k => XS.iand XJ19.here hx rfl (hb hby d2_198) rfl k) ?_
                  show Goes p e below QQ (TJ19.setTop (mkF m 199 #[rv a1, iv p2, iv p3, iv (x0 &&& (255 : Int32)), iv 3, iv (if (x0 &&& (255 : Int32)) = (224 : Int32) then (160 : Int32) else (128 : Int32)), iv (if (x0 &&& (255 : Int32)) = (237 : Int32) then (159 : Int32) else (191 : Int32)), iv (if p3 < (p2 + (3 : Int32)) then (0 : Int32) else (1 : Int32)), iv 1, .unset] [(.int (x1 &&& (255 : Int32)))]))
                  refine Goes.on (fun t k => XS.istore XJ19.here hx rfl (hb hby d2_199) rfl (l' := #[rv a1, iv p2, iv p3, iv (x0 &&& (255 : Int32)), iv 3, iv (if (x0 &&& (255 : Int32)) = (224 : Int32) then (160 : Int32) else (128 : Int32)), iv (if (x0 &&& (255 : Int32)) = (237 : Int32) then (159 : Int32) else (191 : Int32)), iv (if p3 < (p2 + (3 : Int32)) then (0 : Int32) else (1 : Int32)), iv 1, iv (x1 &&& (255 : Int32))]) rfl k) ?_
                  show Goes p e below QQ (TJ19.setTop (mkF m 201 #[rv a1, iv p2, iv p3, iv (x0 &&& (255 : Int32)), iv 3, iv (if (x0 &&& (255 : Int32)) = (224 : Int32) then (160 : Int32) else (128 : Int32)), iv (if (x0 &&& (255 : Int32)) = (237 : Int32) then (159 : Int32) else (191 : Int32)), iv (if p3 < (p2 + (3 : Int32)) then (0 : Int32) else (1 : Int32)), iv 1, iv (x1 &&& (255 : Int32))] []))
                  refine Goes.on (fun t k => XS.iload XJ19.here hx rfl (hb hby d2_201) rfl k) ?_
                  show Goes p e below QQ (TJ19.setTop (mkF m 203 #[rv a1, iv p2, iv p3, iv (x0 &&& (255 : Int32)), iv 3, iv (if (x0 &&& (255 : Int32)) = (224 : Int32) then (160 : Int32) else (128 : Int32)), iv (if (x0 &&& (255 : Int32)) = (237 : Int32) then (159 : Int32) else (191 : Int32)), iv (if p3 < (p2 + (3 : Int32)) then (0 : Int32) else (1 : Int32)), iv 1, iv (x1 &&& (255 : Int32))] [(.int (x1 &&& (255 : Int32)))]))
                  refine Goes.on (fun t k => XS.iload XJ19.here hx rfl (hb hby d2_203) rfl k) ?_
                  show Goes p e below QQ (TJ19.setTop (mkF m 205 #[rv a1, iv p2, iv p3, iv (x0 &&& (255 : Int32)), iv 3, iv (if (x0 &&& (255 : Int32)) = (224 : Int32) then (160 : Int32) else (128 : Int32)), iv (if (x0 &&& (255 : Int32)) = (237 : Int32) then (159 : Int32) else (191 : Int32)), iv (if p3 < (p2 + (3 : Int32)) then (0 : Int32) else (1 : Int32)), iv 1, iv (x1 &&& (255 : Int32))] [(.int (if (x0 &&& (255 : Int32)) = (224 : Int32) then (160 : Int32) else (128 : Int32))), (.int (x1 &&& (255 : Int32)))]))
                  have J22 : ∀ (TJ22 : State) (lJ22 : List Loc), Stand p l e ({ frames := 0, cells := 0, slots := 0, locals := 0 } : Room) s m #[(.ref a1), (.int p2), (.int p3)] below meth c TJ22 lJ22 0 0 → TJ22.heap = h0 → Fr n0 lJ22 → Goes p e below QQ (TJ22.setTop (mkF m 220 #[rv a1, iv p2, iv p3, iv (x0 &&& (255 : Int32)), iv 3, iv (if (x0 &&& (255 : Int32)) = (224 : Int32) then (160 : Int32) else (128 : Int32)), iv (if (x0 &&& (255 : Int32)) = (237 : Int32) then (159 : Int32) else (191 : Int32)), iv (if p3 < (p2 + (3 : Int32)) then (0 : Int32) else (1 : Int32)), iv 1, iv (x1 &&& (255 : Int32))] [(.int (if (x1 &&& (255 : Int32)) < (if (x0 &&& (255 : Int32)) = (224 : Int32) then (160 : Int32) else (128 : Int32)) then (0 : Int32) else (if (if (x0 &&& (255 : Int32)) = (237 : Int32) then (159 : Int32) else (191 : Int32)) < (x1 &&& (255 : Int32)) then (0 : Int32) else (1 : Int32))))])) := by
                    intro TJ22 lJ22 XJ22 eJ22 NJ22
                    refine Goes.on (fun t k => XS.istore XJ22.here hx rfl (hb hby d2_220) rfl (l' := #[rv a1, iv p2, iv p3, iv (x0 &&& (255 : Int32)), iv 3, iv (if (x0 &&& (255 : Int32)) = (224 : Int32) then (160 : Int32) else (128 : Int32)), iv (if (x0 &&& (255 : Int32)) = (237 : Int32) then (159 : Int32) else (191 : Int32)), iv (if (x1 &&& (255 : Int32)) < (if (x0 &&& (255 : Int32)) = (224 : Int32) then (160 : Int32) else (128 : Int32)) then (0 : Int32) else (if (if (x0 &&& (255 : Int32)) = (237 : Int32) then (159 : Int32) else (191 : Int32)) < (x1 &&& (255 : Int32)) then (0 : Int32) else (1 : Int32))), iv 1, iv (x1 &&& (255 : Int32))]) rfl k) ?_
                    show Goes p e below QQ (TJ22.setTop (mkF m 222 #[rv a1, iv p2, iv p3, iv (x0 &&& (255 : Int32)), iv 3, iv (if (x0 &&& (255 : Int32)) = (224 : Int32) then (160 : Int32) else (128 : Int32)), iv (if (x0 &&& (255 : Int32)) = (237 : Int32) then (159 : Int32) else (191 : Int32)), iv (if (x1 &&& (255 : Int32)) < (if (x0 &&& (255 : Int32)) = (224 : Int32) then (160 : Int32) else (128 : Int32)) then (0 : Int32) else (if (if (x0 &&& (255 : Int32)) = (237 : Int32) then (159 : Int32) else (191 : Int32)) < (x1 &&& (255 : Int32)) then (0 : Int32) else (1 : Int32))), iv 1, iv (x1 &&& (255 : Int32))] []))
                    refine Goes.on (fun t k => XS.sipush XJ22.here hx rfl (hb hby d2_222) k) ?_
                    show Goes p e below QQ (TJ22.setTop (mkF m 225 #[rv a1, iv p2, iv p3, iv (x0 &&& (255 : Int32)), iv 3, iv (if (x0 &&& (255 : Int32)) = (224 : Int32) then (160 : Int32) else (128 : Int32)), iv (if (x0 &&& (255 : Int32)) = (237 : Int32) then (159 : Int32) else (191 : Int32)), iv (if (x1 &&& (255 : Int32)) < (if (x0 &&& (255 : Int32)) = (224 : Int32) then (160 : Int32) else (128 : Int32)) then (0 : Int32) else (if (if (x0 &&& (255 : Int32)) = (237 : Int32) then (159 : Int32) else (191 : Int32)) < (x1 &&& (255 : Int32)) then (0 : Int32) else (1 : Int32))), iv 1, iv (x1 &&& (255 : Int32))] [(.int 128)]))
                    refine Goes.on (fun t k => XS.istore XJ22.here hx rfl (hb hby d2_225) rfl (l' := #[rv a1, iv p2, iv p3, iv (x0 &&& (255 : Int32)), iv 3, iv 128, iv (if (x0 &&& (255 : Int32)) = (237 : Int32) then (159 : Int32) else (191 : Int32)), iv (if (x1 &&& (255 : Int32)) < (if (x0 &&& (255 : Int32)) = (224 : Int32) then (160 : Int32) else (128 : Int32)) then (0 : Int32) else (if (if (x0 &&& (255 : Int32)) = (237 : Int32) then (159 : Int32) else (191 : Int32)) < (x1 &&& (255 : Int32)) then (0 : Int32) else (1 : Int32))), iv 1, iv (x1 &&& (255 : Int32))]) rfl k) ?_
                    show Goes p e below QQ (TJ22.setTop (mkF m 227 #[rv a1, iv p2, iv p3, iv (x0 &&& (255 : Int32)), iv 3, iv 128, iv (if (x0 &&& (255 : Int32)) = (237 : Int32) then (159 : Int32) else (191 : Int32)), iv (if (x1 &&& (255 : Int32)) < (if (x0 &&& (255 : Int32)) = (224 : Int32) then (160 : Int32) else (128 : Int32)) then (0 : Int32) else (if (if (x0 &&& (255 : Int32)) = (237 : Int32) then (159 : Int32) else (191 : Int32)) < (x1 &&& (255 : Int32)) then (0 : Int32) else (1 : Int32))), iv 1, iv (x1 &&& (255 : Int32))] []))
                    refine Goes.on (fun t k => XS.sipush XJ22.here hx rfl (hb hby d2_227) k) ?_
                    show Goes p e below QQ (TJ22.setTop (mkF m 230 #[rv a1, iv p2, iv p3, iv (x0 &&& (255 : Int32)), iv 3, iv 128, iv (if (x0 &&& (255 : Int32)) = (237 : Int32) then (159 : Int32) else (191 : Int32)), iv (if (x1 &&& (255 : Int32)) < (if (x0 &&& (255 : Int32)) = (224 : Int32) then (160 : Int32) else (128 : Int32)) then (0 : Int32) else (if (if (x0 &&& (255 : Int32)) = (237 : Int32) then (159 : Int32) else (191 : Int32)) < (x1 &&& (255 : Int32)) then (0 : Int32) else (1 : Int32))), iv 1, iv (x1 &&& (255 : Int32))] [(.int 191)]))
                    refine Goes.on (fun t k => XS.istore XJ22.here hx rfl (hb hby d2_230) rfl (l' := #[rv a1, iv p2, iv p3, iv (x0 &&& (255 : Int32)), iv 3, iv 128, iv 191, iv (if (x1 &&& (255 : Int32)) < (if (x0 &&& (255 : Int32)) = (224 : Int32) then (160 : Int32) else (128 : Int32)) then (0 : Int32) else (if (if (x0 &&& (255 : Int32)) = (237 : Int32) then (159 : Int32) else (191 : Int32)) < (x1 &&& (255 : Int32)) then (0 : Int32) else (1 : Int32))), iv 1, iv (x1 &&& (255 : Int32))]) rfl k) ?_
                    show Goes p e below QQ (TJ22.setTop (mkF m 232 #[rv a1, iv p2, iv p3, iv (x0 &&& (255 : Int32)), iv 3, iv 128, iv 191, iv (if (x1 &&& (255 : Int32)) < (if (x0 &&& (255 : Int32)) = (224 : Int32) then (160 : Int32) else (128 : Int32)) then (0 : Int32) else (if (if (x0 &&& (255 : Int32)) = (237 : Int32) then (159 : Int32) else (191 : Int32)) < (x1 &&& (255 : Int32)) then (0 : Int32) else (1 : Int32))), iv 1, iv (x1 &&& (255 : Int32))] []))
                    refine Goes.on (fun t k => XS.iinc XJ22.here hx rfl (hb hby d2_232) rfl (l' := #[rv a1, iv p2, iv p3, iv (x0 &&& (255 : Int32)), iv 3, iv 128, iv 191, iv (if (x1 &&& (255 : Int32)) < (if (x0 &&& (255 : Int32)) = (224 : Int32) then (160 : Int32) else (128 : Int32)) then (0 : Int32) else (if (if (x0 &&& (255 : Int32)) = (237 : Int32) then (159 : Int32) else (191 : Int32)) < (x1 &&& (255 : Int32)) then (0 : Int32) else (1 : Int32))), iv ((1 : Int32) + (1 : Int32)), iv (x1 &&& (255 : Int32))]) rfl k) ?_
                    show Goes p e below QQ (TJ22.setTop (mkF m 235 #[rv a1, iv p2, iv p3, iv (x0 &&& (255 : Int32)), iv 3, iv 128, iv 191, iv (if (x1 &&& (255 : Int32)) < (if (x0 &&& (255 : Int32)) = (224 : Int32) then (160 : Int32) else (128 : Int32)) then (0 : Int32) else (if (if (x0 &&& (255 : Int32)) = (237 : Int32) then (159 : Int32) else (191 : Int32)) < (x1 &&& (255 : Int32)) then (0 : Int32) else (1 : Int32))), iv ((1 : Int32) + (1 : Int32)), iv (x1 &&& (255 : Int32))] []))
                    rw [(by decide : ((1 : Int32) + (1 : Int32)) = (2 : Int32))]
                    show Goes p e below QQ (TJ22.setTop (mkF m 235 #[rv a1, iv p2, iv p3, iv (x0 &&& (255 : Int32)), iv 3, iv 128, iv 191, iv (if (x1 &&& (255 : Int32)) < (if (x0 &&& (255 : Int32)) = (224 : Int32) then (160 : Int32) else (128 : Int32)) then (0 : Int32) else (if (if (x0 &&& (255 : Int32)) = (237 : Int32) then (159 : Int32) else (191 : Int32)) < (x1 &&& (255 : Int32)) then (0 : Int32) else (1 : Int32))), iv 2, iv (x1 &&& (255 : Int32))] []))
                    refine Goes.on (fun t k => XS.goto XJ22.here hx rfl (pc0 := 235) (pc' := 177) rfl (hb hby d2_235) (by decide) (by decide) k) ?_
                    show Goes p e below QQ (TJ22.setTop (mkF m 177 #[rv a1, iv p2, iv p3, iv (x0 &&& (255 : Int32)), iv 3, iv 128, iv 191, iv (if (x1 &&& (255 : Int32)) < (if (x0 &&& (255 : Int32)) = (224 : Int32) then (160 : Int32) else (128 : Int32)) then (0 : Int32) else (if (if (x0 &&& (255 : Int32)) = (237 : Int32) then (159 : Int32) else (191 : Int32)) < (x1 &&& (255 : Int32)) then (0 : Int32) else (1 : Int32))), iv 2, iv (x1 &&& (255 : Int32))] []))
                    refine Goes.on (fun t k => XS.iload XJ22.here hx rfl (hb hby d2_177) rfl k) ?_
                    show Goes p e below QQ (TJ22.setTop (mkF m 179 #[rv a1, iv p2, iv p3, iv (x0 &&& (255 : Int32)), iv 3, iv 128, iv 191, iv (if (x1 &&& (255 : Int32)) < (if (x0 &&& (255 : Int32)) = (224 : Int32) then (160 : Int32) else (128 : Int32)) then (0 : Int32) else (if (if (x0 &&& (255 : Int32)) = (237 : Int32) then (159 : Int32) else (191 : Int32)) < (x1 &&& (255 : Int32)) then (0 : Int32) else (1 : Int32))), iv 2, iv (x1 &&& (255 : Int32))] [(.int (if (x1 &&& (255 : Int32)) < (if (x0 &&& (255 : Int32)) = (224 : Int32) then (160 : Int32) else (128 : Int32)) then (0 : Int32) else (if (if (x0 &&& (255 : Int32)) = (237 : Int32) then (159 : Int32) else (191 : Int32)) < (x1 &&& (255 : Int32)) then (0 : Int32) else (1 : Int32))))]))
                    by_cases hb23 : (if (x1 &&& (255 : Int32)) < (if (x0 &&& (255 : Int32)) = (224 : Int32) then (160 : Int32) else (128 : Int32)) then (0 : Int32) else (if (if (x0 &&& (255 : Int32)) = (237 : Int32) then (159 : Int32) else (191 : Int32)) < (x1 &&& (255 : Int32)) then (0 : Int32) else (1 : Int32))) = (0 : Int32)
                    · refine Goes.on (fun t k => XS.ifYes XJ22.here hx rfl (pc0 := 179) (pc' := 238) rfl (hb hby d2_179) rfl ((if0 _ _).trans (teq hb23).1) (by decide) (by decide) k) ?_
                      show Goes p e below QQ (TJ22.setTop (mkF m 238 #[rv a1, iv p2, iv p3, iv (x0 &&& (255 : Int32)), iv 3, iv 128, iv 191, iv (if (x1 &&& (255 : Int32)) < (if (x0 &&& (255 : Int32)) = (224 : Int32) then (160 : Int32) else (128 : Int32)) then (0 : Int32) else (if (if (x0 &&& (255 : Int32)) = (237 : Int32) then (159 : Int32) else (191 : Int32)) < (x1 &&& (255 : Int32)) then (0 : Int32) else (1 : Int32))), iv 2, iv (x1 &&& (255 : Int32))] []))
                      refine Goes.on (fun t k => XS.iload XJ22.here hx rfl (hb hby d2_238) rfl k) ?_
                      show Goes p e below QQ (TJ22.setTop (mkF m 240 #[rv a1, iv p2, iv p3, iv (x0 &&& (255 : Int32)), iv 3, iv 128, iv 191, iv (if (x1 &&& (255 : Int32)) < (if (x0 &&& (255 : Int32)) = (224 : Int32) then (160 : Int32) else (128 : Int32)) then (0 : Int32) else (if (if (x0 &&& (255 : Int32)) = (237 : Int32) then (159 : Int32) else (191 : Int32)) < (x1 &&& (255 : Int32)) then (0 : Int32) else (1 : Int32))), iv 2, iv (x1 &&& (255 : Int32))] [(.int (if (x1 &&& (255 : Int32)) < (if (x0 &&& (255 : Int32)) = (224 : Int32) then (160 : Int32) else (128 : Int32)) then (0 : Int32) else (if (if (x0 &&& (255 : Int32)) = (237 : Int32) then (159 : Int32) else (191 : Int32)) < (x1 &&& (255 : Int32)) then (0 : Int32) else (1 : Int32))))]))
                      refine Goes.on (fun t k => XS.ifYes XJ22.here hx rfl (pc0 := 240) (pc' := 248) rfl (hb hby d2_240) rfl ((if0 _ _).trans (teq hb23).1) (by decide) (by decide) k) ?_
                      show Goes p e below QQ (TJ22.setTop (mkF m 248 #[rv a1, iv p2, iv p3, iv (x0 &&& (255 : Int32)), iv 3, iv 128, iv 191, iv (if (x1 &&& (255 : Int32)) < (if (x0 &&& (255 : Int32)) = (224 : Int32) then (160 : Int32) else (128 : Int32)) then (0 : Int32) else (if (if (x0 &&& (255 : Int32)) = (237 : Int32) then (159 : Int32) else (191 : Int32)) < (x1 &&& (255 : Int32)) then (0 : Int32) else (1 : Int32))), iv 2, iv (x1 &&& (255 : Int32))] []))
                      refine Goes.on (fun t k => XS.iconst XJ22.here hx rfl (hb hby d2_248) k) ?_
                      show Goes p e below QQ (TJ22.setTop (mkF m 249 #[rv a1, iv p2, iv p3, iv (x0 &&& (255 : Int32)), iv 3, iv 128, iv 191, iv (if (x1 &&& (255 : Int32)) < (if (x0 &&& (255 : Int32)) = (224 : Int32) then (160 : Int32) else (128 : Int32)) then (0 : Int32) else (if (if (x0 &&& (255 : Int32)) = (237 : Int32) then (159 : Int32) else (191 : Int32)) < (x1 &&& (255 : Int32)) then (0 : Int32) else (1 : Int32))), iv 2, iv (x1 &&& (255 : Int32))] [(.int 0)]))
                      exact Goes.rI XJ22 hx hret hlk (hb hby d2_249) hQQ ⟨congrArg (fun z => some (Value.int z)) (((if_neg hb2).trans ((if_neg hb6).trans ((if_neg hb7).trans ((if_pos hb16).trans ((if_neg hb20).trans ((if_pos hb23).trans rfl)))))) : (seqF p2 p3 x0 x1 x2 x3) = (0 : Int32)).symm, NJ22, eJ22⟩ (by decide) (by decide)
                    · refine Goes.on (fun t k => XS.ifNo XJ22.here hx rfl (hb hby d2_179) rfl ((if0 _ _).trans (feq hb23).1) k) ?_
                      show Goes p e below QQ (TJ22.setTop (mkF m 182 #[rv a1, iv p2, iv p3, iv (x0 &&& (255 : Int32)), iv 3, iv 128, iv 191, iv (if (x1 &&& (255 : Int32)) < (if (x0 &&& (255 : Int32)) = (224 : Int32) then (160 : Int32) else (128 : Int32)) then (0 : Int32) else (if (if (x0 &&& (255 : Int32)) = (237 : Int32) then (159 : Int32) else (191 : Int32)) < (x1 &&& (255 : Int32)) then (0 : Int32) else (1 : Int32))), iv 2, iv (x1 &&& (255 : Int32))] []))
                      refine Goes.on (fun t k => XS.iload XJ22.here hx rfl (hb hby d2_182) rfl k) ?_
                      show Goes p e below QQ (TJ22.setTop (mkF m 184 #[rv a1, iv p2, iv p3, iv (x0 &&& (255 : Int32)), iv 3, iv 128, iv 191, iv (if (x1 &&& (255 : Int32)) < (if (x0 &&& (255 : Int32)) = (224 : Int32) then (160 : Int32) else (128 : Int32)) then (0 : Int32) else (if (if (x0 &&& (255 : Int32)) = (237 : Int32) then (159 : Int32) else (191 : Int32)) < (x1 &&& (255 : Int32)) then (0 : Int32) else (1 : Int32))), iv 2, iv (x1 &&& (255 : Int32))] [(.int 2)]))
                      refine Goes.on (fun t k => XS.iload XJ22.here hx rfl (hb hby d2_184) rfl k) ?_
                      show Goes p e below QQ (TJ22.setTop (mkF m 186 #[rv a1, iv p2, iv p3, iv (x0 &&& (255 : Int32)), iv 3, iv 128, iv 191, iv (if (x1 &&& (255 : Int32)) < (if (x0 &&& (255 : Int32)) = (224 : Int32) then (160 : Int32) else (128 : Int32)) then (0 : Int32) else (if (if (x0 &&& (255 : Int32)) = (237 : Int32) then (159 : Int32) else (191 : Int32)) < (x1 &&& (255 : Int32)) then (0 : Int32) else (1 : Int32))), iv 2, iv (x1 &&& (255 : Int32))] [(.int 3), (.int 2)]))
                      refine Goes.on (fun t k => XS.icmpNo XJ22.here hx rfl (hb hby d2_186) rfl (tlt (by decide)).2.1 k) ?_
                      show Goes p e below QQ (TJ22.setTop (mkF m 189 #[rv a1, iv p2, iv p3, iv (x0 &&& (255 : Int32)), iv 3, iv 128, iv 191, iv (if (x1 &&& (255 : Int32)) < (if (x0 &&& (255 : Int32)) = (224 : Int32) then (160 : Int32) else (128 : Int32)) then (0 : Int32) else (if (if (x0 &&& (255 : Int32)) = (237 : Int32) then (159 : Int32) else (191 : Int32)) < (x1 &&& (255 : Int32)) then (0 : Int32) else (1 : Int32))), iv 2, iv (x1 &&& (255 : Int32))] []))
                      refine Goes.on (fun t k => XS.aloadN XJ22.here hx rfl (hb hby d2_189) rfl rfl k) ?_
                      show Goes p e below QQ (TJ22.setTop (mkF m 190 #[rv a1, iv p2, iv p3, iv (x0 &&& (255 : Int32)), iv 3, iv 128, iv 191, iv (if (x1 &&& (255 : Int32)) < (if (x0 &&& (255 : Int32)) = (224 : Int32) then (160 : Int32) else (128 : Int32)) then (0 : Int32) else (if (if (x0 &&& (255 : Int32)) = (237 : Int32) then (159 : Int32) else (191 : Int32)) < (x1 &&& (255 : Int32)) then (0 : Int32) else (1 : Int32))), iv 2, iv (x1 &&& (255 : Int32))] [(.ref a1)]))
                      refine Goes.on (fun t k => XS.iloadN XJ22.here hx rfl (hb hby d2_190) rfl k) ?_
                      show Goes p e below QQ (TJ22.setTop (mkF m 191 #[rv a1, iv p2, iv p3, iv (x0 &&& (255 : Int32)), iv 3, iv 128, iv 191, iv (if (x1 &&& (255 : Int32)) < (if (x0 &&& (255 : Int32)) = (224 : Int32) then (160 : Int32) else (128 : Int32)) then (0 : Int32) else (if (if (x0 &&& (255 : Int32)) = (237 : Int32) then (159 : Int32) else (191 : Int32)) < (x1 &&& (255 : Int32)) then (0 : Int32) else (1 : Int32))), iv 2, iv (x1 &&& (255 : Int32))] [(.int p2), (.ref a1)]))
                      refine Goes.on (fun t k => XS.iload XJ22.here hx rfl (hb hby d2_191) rfl k) ?_
                      show Goes p e below QQ (TJ22.setTop (mkF m 193 #[rv a1, iv p2, iv p3, iv (x0 &&& (255 : Int32)), iv 3, iv 128, iv 191, iv (if (x1 &&& (255 : Int32)) < (if (x0 &&& (255 : Int32)) = (224 : Int32) then (160 : Int32) else (128 : Int32)) then (0 : Int32) else (if (if (x0 &&& (255 : Int32)) = (237 : Int32) then (159 : Int32) else (191 : Int32)) < (x1 &&& (255 : Int32)) then (0 : Int32) else (1 : Int32))), iv 2, iv (x1 &&& (255 : Int32))] [(.int 2), (.int p2), (.ref a1)]))
                      refine Goes.on (fun t k => XS.iadd XJ22.here hx rfl (hb hby d2_193) rfl k) ?_
                      show Goes p e below QQ (TJ22.setTop (mkF m 194 #[rv a1, iv p2, iv p3, iv (x0 &&& (255 : Int32)), iv 3, iv 128, iv 191, iv (if (x1 &&& (255 : Int32)) < (if (x0 &&& (255 : Int32)) = (224 : Int32) then (160 : Int32) else (128 : Int32)) then (0 : Int32) else (if (if (x0 &&& (255 : Int32)) = (237 : Int32) then (159 : Int32) else (191 : Int32)) < (x1 &&& (255 : Int32)) then (0 : Int32) else (1 : Int32))), iv 2, iv (x1 &&& (255 : Int32))] [(.int (p2 + (2 : Int32))), (.ref a1)]))
                      obtain ⟨cl24, Ar24, aq24, aS24, aN24, aH24, aG24⟩ := id V_a1
                      have hin24 := inb_of (j := (p2 + (2 : Int32))) aS24 I2
                      have hat24 := Has.at (v := (.int x2)) aH24 hin24 G2
                      refine Goes.on (fun t k => XJ22.baloadBytes hx (j := (p2 + (2 : Int32))) (v := (.int x2)) (by rw [eJ22]; exact Ar24.1) (State.isArrayOf_alike hZ.alike Ar24.2.1) Ar24.2.2 hin24 hat24 (g := (mkF m 194 #[rv a1, iv p2, iv p3, iv (x0 &&& (255 : Int32)), iv 3, iv 128, iv 191, iv (if (x1 &&& (255 : Int32)) < (if (x0 &&& (255 : Int32)) = (224 : Int32) then (160 : Int32) else (128 : Int32)) then (0 : Int32) else (if (if (x0 &&& (255 : Int32)) = (237 : Int32) then (159 : Int32) else (191 : Int32)) < (x1 &&& (255 : Int32)) then (0 : Int32) else (1 : Int32))), iv 2, iv (x1 &&& (255 : Int32))] [(.int (p2 + (2 : Int32))), (.ref a1)])) rfl rfl (hb hby d2_194) t k) ?_
                      show Goes p e below QQ (TJ22.setTop (mkF m 195 #[rv a1, iv p2, iv p3, iv (x0 &&& (255 : Int32)), iv 3, iv 128, iv 191, iv (if (x1 &&& (255 : Int32)) < (if (x0 &&& (255 : Int32)) = (224 : Int32) then (160 : Int32) else (128 : Int32)) then (0 : Int32) else (if (if (x0 &&& (255 : Int32)) = (237 : Int32) then (159 : Int32) else (191 : Int32)) < (x1 &&& (255 : Int32)) then (0 : Int32) else (1 : Int32))), iv 2, iv (x1 &&& (255 : Int32))] [(.int x2)]))
                      refine Goes.on (fun t k => XS.sipush XJ22.here hx rfl (hb hby d2_195) k) ?_
                      show Goes p e below QQ (TJ22.setTop (mkF m 198 #[rv a1, iv p2, iv p3, iv (x0 &&& (255 : Int32)), iv 3, iv 128, iv 191, iv (if (x1 &&& (255 : Int32)) < (if (x0 &&& (255 : Int32)) = (224 : Int32) then (160 : Int32) else (128 : Int32)) then (0 : Int32) else (if (if (x0 &&& (255 : Int32)) = (237 : Int32) then (159 : Int32) else (191 : Int32)) < (x1 &&& (255 : Int32)) then (0 : Int32) else (1 : Int32))), iv 2, iv (x1 &&& (255 : Int32))] [(.int 255), (.int x2)]))
                      refine Goes.on (fun t k => XS.iand XJ22.here hx rfl (hb hby d2_198) rfl k) ?_
                      show Goes p e below QQ (TJ22.setTop (mkF m 199 #[rv a1, iv p2, iv p3, iv (x0 &&& (255 : Int32)), iv 3, iv 128, iv 191, iv (if (x1 &&& (255 : Int32)) < (if (x0 &&& (255 : Int32)) = (224 : Int32) then (160 : Int32) else (128 : Int32)) then (0 : Int32) else (if (if (x0 &&& (255 : Int32)) = (237 : Int32) then (159 : Int32) else (191 : Int32)) < (x1 &&& (255 : Int32)) then (0 : Int32) else (1 : Int32))), iv 2, iv (x1 &&& (255 : Int32))] [(.int (x2 &&& (255 : Int32)))]))
                      refine Goes.on (fun t k => XS.istore XJ22.here hx rfl (hb hby d2_199) rfl (l' := #[rv a1, iv p2, iv p3, iv (x0 &&& (255 : Int32)), iv 3, iv 128, iv 191, iv (if (x1 &&& (255 : Int32)) < (if (x0 &&& (255 : Int32)) = (224 : Int32) then (160 : Int32) else (128 : Int32)) then (0 : Int32) else (if (if (x0 &&& (255 : Int32)) = (237 : Int32) then (159 : Int32) else (191 : Int32)) < (x1 &&& (255 : Int32)) then (0 : Int32) else (1 : Int32))), iv 2, iv (x2 &&& (255 : Int32))]) rfl k) ?_
                      show Goes p e below QQ (TJ22.setTop (mkF m 201 #[rv a1, iv p2, iv p3, iv (x0 &&& (255 : Int32)), iv 3, iv 128, iv 191, iv (if (x1 &&& (255 : Int32)) < (if (x0 &&& (255 : Int32)) = (224 : Int32) then (160 : Int32) else (128 : Int32)) then (0 : Int32) else (if (if (x0 &&& (255 : Int32)) = (237 : Int32) then (159 : Int32) else (191 : Int32)) < (x1 &&& (255 : Int32)) then (0 : Int32) else (1 : Int32))), iv 2, iv (x2 &&& (255 : Int32))] []))
                      refine Goes.on (fun t k => XS.iload XJ22.here hx rfl (hb hby d2_201) rfl k) ?_
                      show Goes p e below QQ (TJ22.setTop (mkF m 203 #[rv a1, iv p2, iv p3, iv (x0 &&& (255 : Int32)), iv 3, iv 128, iv 191, iv (if (x1 &&& (255 : Int32)) < (if (x0 &&& (255 : Int32)) = (224 : Int32) then (160 : Int32) else (128 : Int32)) then (0 : Int32) else (if (if (x0 &&& (255 : Int32)) = (237 : Int32) then (159 : Int32) else (191 : Int32)) < (x1 &&& (255 : Int32)) then (0 : Int32) else (1 : Int32))), iv 2, iv (x2 &&& (255 : Int32))] [(.int (x2 &&& (255 : Int32)))]))
                      refine Goes.on (fun t k => XS.iload XJ22.here hx rfl (hb hby d2_203) rfl k) ?_
                      show Goes p e below QQ (TJ22.setTop (mkF m 205 #[rv a1, iv p2, iv p3, iv (x0 &&& (255 : Int32)), iv 3, iv 128, iv 191, iv (if (x1 &&& (255 : Int32)) < (if (x0 &&& (255 : Int32)) = (224 : Int32) then (160 : Int32) else (128 : Int32)) then (0 : Int32) else (if (if (x0 &&& (255 : Int32)) = (237 : Int32) then (159 : Int32) else (191 : Int32)) < (x1 &&& (255 : Int32)) then (0 : Int32) else (1 : Int32))), iv 2, iv (x2 &&& (255 : Int32))] [(.int 128), (.int (x2 &&& (255 : Int32)))]))
                      have J25 : ∀ (TJ25 : State) (lJ25 : List Loc), Stand p l e ({ frames := 0, cells := 0, slots := 0, locals := 0 } : Room) s m #[(.ref a1), (.int p2), (.int p3)] below meth c TJ25 lJ25 0 0 → TJ25.heap = h0 → Fr n0 lJ25 → Goes p e below QQ (TJ25.setTop (mkF m 220 #[rv a1, iv p2, iv p3, iv (x0 &&& (255 : Int32)), iv 3, iv 128, iv 191, iv (if (x1 &&& (255 : Int32)) < (if (x0 &&& (255 : Int32)) = (224 : Int32) then (160 : Int32) else (128 : Int32)) then (0 : Int32) else (if (if (x0 &&& (255 : Int32)) = (237 : Int32) then (159 : Int32) else (191 : Int32)) < (x1 &&& (255 : Int32)) then (0 : Int32) else (1 : Int32))), iv 2, iv (x2 &&& (255 : Int32))] [(.int (if (x2 &&& (255 : Int32)) < (128 : Int32) then (0 : Int32) else (if (191 : Int32) < (x2 &&& (255 : Int32)) then (0 : Int32) else (1 : Int32))))])) := by
                        intro TJ25 lJ25 XJ25 eJ25 NJ25
                        refine Goes.on (fun t k => XS.istore XJ25.here hx rfl (hb hby d2_220) rfl (l' := #[rv a1, iv p2, iv p3, iv (x0 &&& (255 : Int32)), iv 3, iv 128, iv 191, iv (if (x2 &&& (255 : Int32)) < (128 : Int32) then (0 : Int32) else (if (191 : Int32) < (x2 &&& (255 : Int32)) then (0 : Int32) else (1 : Int32))), iv 2, iv (x2 &&& (255 : Int32))]) rfl k) ?_
                        show Goes p e below QQ (TJ25.setTop (mkF m 222 #[rv a1, iv p2, iv p3, iv (x0 &&& (255 : Int32)), iv 3, iv 128, iv 191, iv (if (x2 &&& (255 : Int32)) < (128 : Int32) then (0 : Int32) else (if (191 : Int32) < (x2 &&& (255 : Int32)) then (0 : Int32) else (1 : Int32))), iv 2, iv (x2 &&& (255 : Int32))] []))
                        refine Goes.on (fun t k => XS.sipush XJ25.here hx rfl (hb hby d2_222) k) ?_
                        show Goes p e below QQ (TJ25.setTop (mkF m 225 #[rv a1, iv p2, iv p3, iv (x0 &&& (255 : Int32)), iv 3, iv 128, iv 191, iv (if (x2 &&& (255 : Int32)) < (128 : Int32) then (0 : Int32) else (if (191 : Int32) < (x2 &&& (255 : Int32)) then (0 : Int32) else (1 : Int32))), iv 2, iv (x2 &&& (255 : Int32))] [(.int 128)]))
                        refine Goes.on (fun t k => XS.istore XJ25.here hx rfl (hb hby d2_225) rfl (l' := #[rv a1, iv p2, iv p3, iv (x0 &&& (255 : Int32)), iv 3, iv 128, iv 191, iv (if (x2 &&& (255 : Int32)) < (128 : Int32) then (0 : Int32) else (if (191 : Int32) < (x2 &&& (255 : Int32)) then (0 : Int32) else (1 : Int32))), iv 2, iv (x2 &&& (255 : Int32))]) rfl k) ?_
                        show Goes p e below QQ (TJ25.setTop (mkF m 227 #[rv a1, iv p2, iv p3, iv (x0 &&& (255 : Int32)), iv 3, iv 128, iv 191, iv (if (x2 &&& (255 : Int32)) < (128 : Int32) then (0 : Int32) else (if (191 : Int32) < (x2 &&& (255 : Int32)) then (0 : Int32) else (1 : Int32))), iv 2, iv (x2 &&& (255 : Int32))] []))
                        refine Goes.on (fun t k => XS.sipush XJ25.here hx rfl (hb hby d2_227) k) ?_
                        show Goes p e below QQ (TJ25.setTop (mkF m 230 #[rv a1, iv p2, iv p3, iv (x0 &&& (255 : Int32)), iv 3, iv 128, iv 191, iv (if (x2 &&& (255 : Int32)) < (128 : Int32) then (0 : Int32) else (if (191 : Int32) < (x2 &&& (255 : Int32)) then (0 : Int32) else (1 : Int32))), iv 2, iv (x2 &&& (255 : Int32))] [(.int 191)]))
                        refine Goes.on (fun t k => XS.istore XJ25.here hx rfl (hb hby d2_230) rfl (l' := #[rv a1, iv p2, iv p3, iv (x0 &&& (255 : Int32)), iv 3, iv 128, iv 191, iv (if (x2 &&& (255 : Int32)) < (128 : Int32) then (0 : Int32) else (if (191 : Int32) < (x2 &&& (255 : Int32)) then (0 : Int32) else (1 : Int32))), iv 2, iv (x2 &&& (255 : Int32))]) rfl k) ?_
                        show Goes p e below QQ (TJ25.setTop (mkF m 232 #[rv a1, iv p2, iv p3, iv (x0 &&& (255 : Int32)), iv 3, iv 128, iv 191, iv (if (x2 &&& (255 : Int32)) < (128 : Int32) then (0 : Int32) else (if (191 : Int32) < (x2 &&& (255 : Int32)) then (0 : Int32) else (1 : Int32))), iv 2, iv (x2 &&& (255 : Int32))] []))
                        refine Goes.on (fun t k => XS.iinc XJ25.here hx rfl (hb hby d2_232) rfl (l' := #[rv a1, iv p2, iv p3, iv (x0 &&& (255 : Int32)), iv 3, iv 128, iv 191, iv (if (x2 &&& (255 : Int32)) < (128 : Int32) then (0 : Int32) else (if (191 : Int32) < (x2 &&& (255 : Int32)) then (0 : Int32) else (1 : Int32))), iv ((2 : Int32) + (1 : Int32)), iv (x2 &&& (255 : Int32))]) rfl k) ?_
                        show Goes p e below QQ (TJ25.setTop (mkF m 235 #[rv a1, iv p2, iv p3, iv (x0 &&& (255 : Int32)), iv 3, iv 128, iv 191, iv (if (x2 &&& (255 : Int32)) < (128 : Int32) then (0 : Int32) else (if (191 : Int32) < (x2 &&& (255 : Int32)) then (0 : Int32) else (1 : Int32))), iv ((2 : Int32) + (1 : Int32)), iv (x2 &&& (255 : Int32))] []))
                        rw [(by decide : ((2 : Int32) + (1 : Int32)) = (3 : Int32))]
                        show Goes p e below QQ (TJ25.setTop (mkF m 235 #[rv a1, iv p2, iv p3, iv (x0 &&& (255 : Int32)), iv 3, iv 128, iv 191, iv (if (x2 &&& (255 : Int32)) < (128 : Int32) then (0 : Int32) else (if (191 : Int32) < (x2 &&& (255 : Int32)) then (0 : Int32) else (1 : Int32))), iv 3, iv (x2 &&& (255 : Int32))] []))
                        refine Goes.on (fun t k => XS.goto XJ25.here hx rfl (pc0 := 235) (pc' := 177) rfl (hb hby d2_235) (by decide) (by decide) k) ?_
                        show Goes p e below QQ (TJ25.setTop (mkF m 177 #[rv a1, iv p2, iv p3, iv (x0 &&& (255 : Int32)), iv 3, iv 128, iv 191, iv (if (x2 &&& (255 : Int32)) < (128 : Int32) then (0 : Int32) else (if (191 : Int32) < (x2 &&& (255 : Int32)) then (0 : Int32) else (1 : Int32))), iv 3, iv (x2 &&& (255 : Int32))] []))
                        refine Goes.on (fun t k => XS.iload XJ25.here hx rfl (hb hby d2_177) rfl k) ?_
                        show Goes p e below QQ (TJ25.setTop (mkF m 179 #[rv a1, iv p2, iv p3, iv (x0 &&& (255 : Int32)), iv 3, iv 128, iv 191, iv (if (x2 &&& (255 : Int32)) < (128 : Int32) then (0 : Int32) else (if (191 : Int32) < (x2 &&& (255 : Int32)) then (0 : Int32) else (1 : Int32))), iv 3, iv (x2 &&& (255 : Int32))] [(.int (if (x2 &&& (255 : Int32)) < (128 : Int32) then (0 : Int32) else (if (191 : Int32) < (x2 &&& (255 : Int32)) then (0 : Int32) else (1 : Int32))))]))
                        by_cases hb26 : (if (x2 &&& (255 : Int32)) < (128 : Int32) then (0 : Int32) else (if (191 : Int32) < (x2 &&& (255 : Int32)) then (0 : Int32) else (1 : Int32))) = (0 : Int32)
                        · refine Goes.on (fun t k => XS.ifYes XJ25.here hx rfl (pc0 := 179) (pc' := 238) rfl (hb hby d2_179) rfl ((if0 _ _).trans (teq hb26).1) (by decide) (by decide) k) ?_
                          show Goes p e below QQ (TJ25.setTop (mkF m 238 #[rv a1, iv p2, iv p3, iv (x0 &&& (255 : Int32)), iv 3, iv 128, iv 191, iv (if (x2 &&& (255 : Int32)) < (128 : Int32) then (0 : Int32) else (if (191 : Int32) < (x2 &&& (255 : Int32)) then (0 : Int32) else (1 : Int32))), iv 3, iv (x2 &&& (255 : Int32))] []))
                          refine Goes.on (fun t k => XS.iload XJ25.here hx rfl (hb hby d2_238) rfl k) ?_
                          show Goes p e below QQ (TJ25.setTop (mkF m 240 #[rv a1, iv p2, iv p3, iv (x0 &&& (255 : Int32)), iv 3, iv 128, iv 191, iv (if (x2 &&& (255 : Int32)) < (128 : Int32) then (0 : Int32) else (if (191 : Int32) < (x2 &&& (255 : Int32)) then (0 : Int32) else (1 : Int32))), iv 3, iv (x2 &&& (255 : Int32))] [(.int (if (x2 &&& (255 : Int32)) < (128 : Int32) then (0 : Int32) else (if (191 : Int32) < (x2 &&& (255 : Int32)) then (0 : Int32) else (1 : Int32))))]))
                          refine Goes.on (fun t k => XS.ifYes XJ25.here hx rfl (pc0 := 240) (pc' := 248) rfl (hb hby d2_240) rfl ((if0 _ _).trans (teq hb26).1) (by decide) (by decide) k) ?_
                          show Goes p e below QQ (TJ25.setTop (mkF m 248 #[rv a1, iv p2, iv p3, iv (x0 &&& (255 : Int32)), iv 3, iv 128, iv 191, iv (if (x2 &&& (255 : Int32)) < (128 : Int32) then (0 : Int32) else (if (191 : Int32) < (x2 &&& (255 : Int32)) then (0 : Int32) else (1 : Int32))), iv 3, iv (x2 &&& (255 : Int32))] []))
                          refine Goes.on (fun t k => XS.iconst XJ25.here hx rfl (hb hby d2_248) k) ?_
                          show Goes p e below QQ (TJ25.setTop (mkF m 249 #[rv a1, iv p2, iv p3, iv (x0 &&& (255 : Int32)), iv 3, iv 128, iv 191, iv (if (x2 &&& (255 : Int32)) < (128 : Int32) then (0 : Int32) else (if (191 : Int32) < (x2 &&& (255 : Int32)) then (0 : Int32) else (1 : Int32))), iv 3, iv (x2 &&& (255 : Int32))] [(.int 0)]))
                          exact Goes.rI XJ25 hx hret hlk (hb hby d2_249) hQQ ⟨congrArg (fun z => some (Value.int z)) (((if_neg hb2).trans ((if_neg hb6).trans ((if_neg hb7).trans ((if_pos hb16).trans ((if_neg hb20).trans ((if_neg hb23).trans ((if_pos hb26).trans rfl))))))) : (seqF p2 p3 x0 x1 x2 x3) = (0 : Int32)).symm, NJ25, eJ25⟩ (by decide) (by decide)
                        · refine Goes.on (fun t k => XS.ifNo XJ25.here hx rfl (hb hby d2_179) rfl ((if0 _ _).trans (feq hb26).1) k) ?_
                          show Goes p e below QQ (TJ25.setTop (mkF m 182 #[rv a1, iv p2, iv p3, iv (x0 &&& (255 : Int32)), iv 3, iv 128, iv 191, iv (if (x2 &&& (255 : Int32)) < (128 : Int32) then (0 : Int32) else (if (191 : Int32) < (x2 &&& (255 : Int32)) then (0 : Int32) else (1 : Int32))), iv 3, iv (x2 &&& (255 : Int32))] []))
                          refine Goes.on (fun t k => XS.iload XJ25.here hx rfl (hb hby d2_182) rfl k) ?_
                          show Goes p e below QQ (TJ25.setTop (mkF m 184 #[rv a1, iv p2, iv p3, iv (x0 &&& (255 : Int32)), iv 3, iv 128, iv 191, iv (if (x2 &&& (255 : Int32)) < (128 : Int32) then (0 : Int32) else (if (191 : Int32) < (x2 &&& (255 : Int32)) then (0 : Int32) else (1 : Int32))), iv 3, iv (x2 &&& (255 : Int32))] [(.int 3)]))
                          refine Goes.on (fun t k => XS.iload XJ25.here hx rfl (hb hby d2_184) rfl k) ?_
                          show Goes p e below QQ (TJ25.setTop (mkF m 186 #[rv a1, iv p2, iv p3, iv (x0 &&& (255 : Int32)), iv 3, iv 128, iv 191, iv (if (x2 &&& (255 : Int32)) < (128 : Int32) then (0 : Int32) else (if (191 : Int32) < (x2 &&& (255 : Int32)) then (0 : Int32) else (1 : Int32))), iv 3, iv (x2 &&& (255 : Int32))] [(.int 3), (.int 3)]))
                          refine Goes.on (fun t k => XS.icmpYes XJ25.here hx rfl (pc0 := 186) (pc' := 238) rfl (hb hby d2_186) rfl (flt (by decide)).2.1 (by decide) (by decide) k) ?_
                          show Goes p e below QQ (TJ25.setTop (mkF m 238 #[rv a1, iv p2, iv p3, iv (x0 &&& (255 : Int32)), iv 3, iv 128, iv 191, iv (if (x2 &&& (255 : Int32)) < (128 : Int32) then (0 : Int32) else (if (191 : Int32) < (x2 &&& (255 : Int32)) then (0 : Int32) else (1 : Int32))), iv 3, iv (x2 &&& (255 : Int32))] []))
                          refine Goes.on (fun t k => XS.iload XJ25.here hx rfl (hb hby d2_238) rfl k) ?_
                          show Goes p e below QQ (TJ25.setTop (mkF m 240 #[rv a1, iv p2, iv p3, iv (x0 &&& (255 : Int32)), iv 3, iv 128, iv 191, iv (if (x2 &&& (255 : Int32)) < (128 : Int32) then (0 : Int32) else (if (191 : Int32) < (x2 &&& (255 : Int32)) then (0 : Int32) else (1 : Int32))), iv 3, iv (x2 &&& (255 : Int32))] [(.int (if (x2 &&& (255 : Int32)) < (128 : Int32) then (0 : Int32) else (if (191 : Int32) < (x2 &&& (255 : Int32)) then (0 : Int32) else (1 : Int32))))]))
                          refine Goes.on (fun t k => XS.ifNo XJ25.here hx rfl (hb hby d2_240) rfl ((if0 _ _).trans (feq hb26).1) k) ?_
                          show Goes p e below QQ (TJ25.setTop (mkF m 243 #[rv a1, iv p2, iv p3, iv (x0 &&& (255 : Int32)), iv 3, iv 128, iv 191, iv (if (x2 &&& (255 : Int32)) < (128 : Int32) then (0 : Int32) else (if (191 : Int32) < (x2 &&& (255 : Int32)) then (0 : Int32) else (1 : Int32))), iv 3, iv (x2 &&& (255 : Int32))] []))
                          refine Goes.on (fun t k => XS.iload XJ25.here hx rfl (hb hby d2_243) rfl k) ?_
                          show Goes p e below QQ (TJ25.setTop (mkF m 245 #[rv a1, iv p2, iv p3, iv (x0 &&& (255 : Int32)), iv 3, iv 128, iv 191, iv (if (x2 &&& (255 : Int32)) < (128 : Int32) then (0 : Int32) else (if (191 : Int32) < (x2 &&& (255 : Int32)) then (0 : Int32) else (1 : Int32))), iv 3, iv (x2 &&& (255 : Int32))] [(.int 3)]))
                          refine Goes.on (fun t k => XS.goto XJ25.here hx rfl (pc0 := 245) (pc' := 249) rfl (hb hby d2_245) (by decide) (by decide) k) ?_
                          show Goes p e below QQ (TJ25.setTop (mkF m 249 #[rv a1, iv p2, iv p3, iv (x0 &&& (255 : Int32)), iv 3, iv 128, iv 191, iv (if (x2 &&& (255 : Int32)) < (128 : Int32) then (0 : Int32) else (if (191 : Int32) < (x2 &&& (255 : Int32)) then (0 : Int32) else (1 : Int32))), iv 3, iv (x2 &&& (255 : Int32))] [(.int 3)]))
                          exact Goes.rI XJ25 hx hret hlk (hb hby d2_249) hQQ ⟨congrArg (fun z => some (Value.int z)) (((if_neg hb2).trans ((if_neg hb6).trans ((if_neg hb7).trans ((if_pos hb16).trans ((if_neg hb20).trans ((if_neg hb23).trans ((if_neg hb26).trans rfl))))))) : (seqF p2 p3 x0 x1 x2 x3) = (3 : Int32)).symm, NJ25, eJ25⟩ (by decide) (by decide)
                      show Goes p e below QQ (TJ22.setTop (mkF m 205 #[rv a1, iv p2, iv p3, iv (x0 &&& (255 : Int32)), iv 3, iv 128, iv 191, iv (if (x1 &&& (255 : Int32)) < (if (x0 &&& (255 : Int32)) = (224 : Int32) then (160 : Int32) else (128 : Int32)) then (0 : Int32) else (if (if (x0 &&& (255 : Int32)) = (237 : Int32) then (159 : Int32) else (191 : Int32)) < (x1 &&& (255 : Int32)) then (0 : Int32) else (1 : Int32))), iv 2, iv (x2 &&& (255 : Int32))] [(.int 128), (.int (x2 &&& (255 : Int32)))]))
                      by_cases hb27 : (x2 &&& (255 : Int32)) < (128 : Int32)
                      · refine Goes.on (fun t k => XS.icmpYes XJ22.here hx rfl (pc0 := 205) (pc' := 219) rfl (hb hby d2_205) rfl (tlt hb27).1 (by decide) (by decide) k) ?_
                        show Goes p e below QQ (TJ22.setTop (mkF m 219 #[rv a1, iv p2, iv p3, iv (x0 &&& (255 : Int32)), iv 3, iv 128, iv 191, iv (if (x1 &&& (255 : Int32)) < (if (x0 &&& (255 : Int32)) = (224 : Int32) then (160 : Int32) else (128 : Int32)) then (0 : Int32) else (if (if (x0 &&& (255 : Int32)) = (237 : Int32) then (159 : Int32) else (191 : Int32)) < (x1 &&& (255 : Int32)) then (0 : Int32) else (1 : Int32))), iv 2, iv (x2 &&& (255 : Int32))] []))
                        refine Goes.on (fun t k => XS.iconst XJ22.here hx rfl (hb hby d2_219) k) ?_
                        show Goes p e below QQ (TJ22.setTop (mkF m 220 #[rv a1, iv p2, iv p3, iv (x0 &&& (255 : Int32)), iv 3, iv 128, iv 191, iv (if (x1 &&& (255 : Int32)) < (if (x0 &&& (255 : Int32)) = (224 : Int32) then (160 : Int32) else (128 : Int32)) then (0 : Int32) else (if (if (x0 &&& (255 : Int32)) = (237 : Int32) then (159 : Int32) else (191 : Int32)) < (x1 &&& (255 : Int32)) then (0 : Int32) else (1 : Int32))), iv 2, iv (x2 &&& (255 : Int32))] [(.int 0)]))
                        rw [(((if_pos hb27).trans rfl) : (if (x2 &&& (255 : Int32)) < (128 : Int32) then (0 : Int32) else (if (191 : Int32) < (x2 &&& (255 : Int32)) then (0 : Int32) else (1 : Int32))) = (0 : Int32))] at J25
                        exact J25 _ _ XJ22 eJ22 NJ22
                      · refine Goes.on (fun t k => XS.icmpNo XJ22.here hx rfl (hb hby d2_205) rfl (flt hb27).1 k) ?_
                        show Goes p e below QQ (TJ22.setTop (mkF m 208 #[rv a1, iv p2, iv p3, iv (x0 &&& (255 : Int32)), iv 3, iv 128, iv 191, iv (if (x1 &&& (255 : Int32)) < (if (x0 &&& (255 : Int32)) = (224 : Int32) then (160 : Int32) else (128 : Int32)) then (0 : Int32) else (if (if (x0 &&& (255 : Int32)) = (237 : Int32) then (159 : Int32) else (191 : Int32)) < (x1 &&& (255 : Int32)) then (0 : Int32) else (1 : Int32))), iv 2, iv (x2 &&& (255 : Int32))] []))
                        refine Goes.on (fun t k => XS.iload XJ22.here hx rfl (hb hby d2_208) rfl k) ?_
                        show Goes p e below QQ (TJ22.setTop (mkF m 210 #[rv a1, iv p2, iv p3, iv (x0 &&& (255 : Int32)), iv 3, iv 128, iv 191, iv (if (x1 &&& (255 : Int32)) < (if (x0 &&& (255 : Int32)) = (224 : Int32) then (160 : Int32) else (128 : Int32)) then (0 : Int32) else (if (if (x0 &&& (255 : Int32)) = (237 : Int32) then (159 : Int32) else (191 : Int32)) < (x1 &&& (255 : Int32)) then (0 : Int32) else (1 : Int32))), iv 2, iv (x2 &&& (255 : Int32))] [(.int (x2 &&& (255 : Int32)))]))
                        refine Goes.on (fun t k => XS.iload XJ22.here hx rfl (hb hby d2_210) rfl k) ?_
                        show Goes p e below QQ (TJ22.setTop (mkF m 212 #[rv a1, iv p2, iv p3, iv (x0 &&& (255 : Int32)), iv 3, iv 128, iv 191, iv (if (x1 &&& (255 : Int32)) < (if (x0 &&& (255 : Int32)) = (224 : Int32) then (160 : Int32) else (128 : Int32)) then (0 : Int32) else (if (if (x0 &&& (255 : Int32)) = (237 : Int32) then (159 : Int32) else (191 : Int32)) < (x1 &&& (255 : Int32)) then (0 : Int32) else (1 : Int32))), iv 2, iv (x2 &&& (255 : Int32))] [(.int 191), (.int (x2 &&& (255 : Int32)))]))
                        by_cases hb28 : (191 : Int32) < (x2 &&& (255 : Int32))
                        · refine Goes.on (fun t k => XS.icmpYes XJ22.here hx rfl (pc0 := 212) (pc' := 219) rfl (hb hby d2_212) rfl (tlt hb28).2.2.1 (by decide) (by decide) k) ?_
                          show Goes p e below QQ (TJ22.setTop (mkF m 219 #[rv a1, iv p2, iv p3, iv (x0 &&& (255 : Int32)), iv 3, iv 128, iv 191, iv (if (x1 &&& (255 : Int32)) < (if (x0 &&& (255 : Int32)) = (224 : Int32) then (160 : Int32) else (128 : Int32)) then (0 : Int32) else (if (if (x0 &&& (255 : Int32)) = (237 : Int32) then (159 : Int32) else (191 : Int32)) < (x1 &&& (255 : Int32)) then (0 : Int32) else (1 : Int32))), iv 2, iv (x2 &&& (255 : Int32))] []))
                          refine Goes.on (fun t k => XS.iconst XJ22.here hx rfl (hb hby d2_219) k) ?_
                          show Goes p e below QQ (TJ22.setTop (mkF m 220 #[rv a1, iv p2, iv p3, iv (x0 &&& (255 : Int32)), iv 3, iv 128, iv 191, iv (if (x1 &&& (255 : Int32)) < (if (x0 &&& (255 : Int32)) = (224 : Int32) then (160 : Int32) else (128 : Int32)) then (0 : Int32) else (if (if (x0 &&& (255 : Int32)) = (237 : Int32) then (159 : Int32) else (191 : Int32)) < (x1 &&& (255 : Int32)) then (0 : Int32) else (1 : Int32))), iv 2, iv (x2 &&& (255 : Int32))] [(.int 0)]))
                          rw [(((if_neg hb27).trans ((if_pos hb28).trans rfl)) : (if (x2 &&& (255 : Int32)) < (128 : Int32) then (0 : Int32) else (if (191 : Int32) < (x2 &&& (255 : Int32)) then (0 : Int32) else (1 : Int32))) = (0 : Int32))] at J25
                          exact J25 _ _ XJ22 eJ22 NJ22
                        · refine Goes.on (fun t k => XS.icmpNo XJ22.here hx rfl (hb hby d2_212) rfl (flt hb28).2.2.1 k) ?_
                          show Goes p e below QQ (TJ22.setTop (mkF m 215 #[rv a1, iv p2, iv p3, iv (x0 &&& (255 : Int32)), iv 3, iv 128, iv 191, iv (if (x1 &&& (255 : Int32)) < (if (x0 &&& (255 : Int32)) = (224 : Int32) then (160 : Int32) else (128 : Int32)) then (0 : Int32) else (if (if (x0 &&& (255 : Int32)) = (237 : Int32) then (159 : Int32) else (191 : Int32)) < (x1 &&& (255 : Int32)) then (0 : Int32) else (1 : Int32))), iv 2, iv (x2 &&& (255 : Int32))] []))
                          refine Goes.on (fun t k => XS.iconst XJ22.here hx rfl (hb hby d2_215) k) ?_
                          show Goes p e below QQ (TJ22.setTop (mkF m 216 #[rv a1, iv p2, iv p3, iv (x0 &&& (255 : Int32)), iv 3, iv 128, iv 191, iv (if (x1 &&& (255 : Int32)) < (if (x0 &&& (255 : Int32)) = (224 : Int32) then (160 : Int32) else (128 : Int32)) then (0 : Int32) else (if (if (x0 &&& (255 : Int32)) = (237 : Int32) then (159 : Int32) else (191 : Int32)) < (x1 &&& (255 : Int32)) then (0 : Int32) else (1 : Int32))), iv 2, iv (x2 &&& (255 : Int32))] [(.int 1)]))
                          refine Goes.on (fun t k => XS.goto XJ22.here hx rfl (pc0 := 216) (pc' := 220) rfl (hb hby d2_216) (by decide) (by decide) k) ?_
                          show Goes p e below QQ (TJ22.setTop (mkF m 220 #[rv a1, iv p2, iv p3, iv (x0 &&& (255 : Int32)), iv 3, iv 128, iv 191, iv (if (x1 &&& (255 : Int32)) < (if (x0 &&& (255 : Int32)) = (224 : Int32) then (160 : Int32) else (128 : Int32)) then (0 : Int32) else (if (if (x0 &&& (255 : Int32)) = (237 : Int32) then (159 : Int32) else (191 : Int32)) < (x1 &&& (255 : Int32)) then (0 : Int32) else (1 : Int32))), iv 2, iv (x2 &&& (255 : Int32))] [(.int 1)]))
                          rw [(((if_neg hb27).trans ((if_neg hb28).trans rfl)) : (if (x2 &&& (255 : Int32)) < (128 : Int32) then (0 : Int32) else (if (191 : Int32) < (x2 &&& (255 : Int32)) then (0 : Int32) else (1 : Int32))) = (1 : Int32))] at J25
                          exact J25 _ _ XJ22 eJ22 NJ22
                  show Goes p e below QQ (TJ19.setTop (mkF m 205 #[rv a1, iv p2, iv p3, iv (x0 &&& (255 : Int32)), iv 3, iv (if (x0 &&& (255 : Int32)) = (224 : Int32) then (160 : Int32) else (128 : Int32)), iv (if (x0 &&& (255 : Int32)) = (237 : Int32) then (159 : Int32) else (191 : Int32)), iv (if p3 < (p2 + (3 : Int32)) then (0 : Int32) else (1 : Int32)), iv 1, iv (x1 &&& (255 : Int32))] [(.int (if (x0 &&& (255 : Int32)) = (224 : Int32) then (160 : Int32) else (128 : Int32))), (.int (x1 &&& (255 : Int32)))]))
                  by_cases hb29 : (x1 &&& (255 : Int32)) < (if (x0 &&& (255 : Int32)) = (224 : Int32) then (160 : Int32) else (128 : Int32))
                  · refine Goes.on (fun t k => XS.icmpYes XJ19.here hx rfl (pc0 := 205) (pc' := 219) rfl (hb hby d2_205) rfl (tlt hb29).1 (by decide) (by decide) k) ?_
                    show Goes p e below QQ (TJ19.setTop (mkF m 219 #[rv a1, iv p2, iv p3, iv (x0 &&& (255 : Int32)), iv 3, iv (if (x0 &&& (255 : Int32)) = (224 : Int32) then (160 : Int32) else (128 : Int32)), iv (if (x0 &&& (255 : Int32)) = (237 : Int32) then (159 : Int32) else (191 : Int32)), iv (if p3 < (p2 + (3 : Int32)) then (0 : Int32) else (1 : Int32)), iv 1, iv (x1 &&& (255 : Int32))] []))
                    refine Goes.on (fun t k => XS.iconst XJ19.here hx rfl (hb hby d2_219) k) ?_
                    show Goes p e below QQ (TJ19.setTop (mkF m 220 #[rv a1, iv p2, iv p3, iv (x0 &&& (255 : Int32)), iv 3, iv (if (x0 &&& (255 : Int32)) = (224 : Int32) then (160 : Int32) else (128 : Int32)), iv (if (x0 &&& (255 : Int32)) = (237 : Int32) then (159 : Int32) else (191 : Int32)), iv (if p3 < (p2 + (3 : Int32)) then (0 : Int32) else (1 : Int32)), iv 1, iv (x1 &&& (255 : Int32))] [(.int 0)]))
                    rw [(((if_pos hb29).trans rfl) : (if (x1 &&& (255 : Int32)) < (if (x0 &&& (255 : Int32)) = (224 : Int32) then (160 : Int32) else (128 : Int32)) then (0 : Int32) else (if (if (x0 &&& (255 : Int32)) = (237 : Int32) then (159 : Int32) else (191 : Int32)) < (x1 &&& (255 : Int32)) then (0 : Int32) else (1 : Int32))) = (0 : Int32))] at J22
                    exact J22 _ _ XJ19 eJ19 NJ19
                  · refine Goes.on (fun t k => XS.icmpNo XJ19.here hx rfl (hb hby d2_205) rfl (flt hb29).1 k) ?_
                    show Goes p e below QQ (TJ19.setTop (mkF m 208 #[rv a1, iv p2, iv p3, iv (x0 &&& (255 : Int32)), iv 3, iv (if (x0 &&& (255 : Int32)) = (224 : Int32) then (160 : Int32) else (128 : Int32)), iv (if (x0 &&& (255 : Int32)) = (237 : Int32) then (159 : Int32) else (191 : Int32)), iv (if p3 < (p2 + (3 : Int32)) then (0 : Int32) else (1 : Int32)), iv 1, iv (x1 &&& (255 : Int32))] []))
                    refine Goes.on (fun t k => XS.iload XJ19.here hx rfl (hb hby d2_208) rfl k) ?_
                    show Goes p e below QQ (TJ19.setTop (mkF m 210 #[rv a1, iv p2, iv p3, iv (x0 &&& (255 : Int32)), iv 3, iv (if (x0 &&& (255 : Int32)) = (224 : Int32) then (160 : Int32) else (128 : Int32)), iv (if (x0 &&& (255 : Int32)) = (237 : Int32) then (159 : Int32) else (191 : Int32)), iv (if p3 < (p2 + (3 : Int32)) then (0 : Int32) else (1 : Int32)), iv 1, iv (x1 &&& (255 : Int32))] [(.int (x1 &&& (255 : Int32)))]))
                    refine Goes.on (fun t k => XS.iload XJ19.here hx rfl (hb hby d2_210) rfl k) ?_
                    show Goes p e below QQ (TJ19.setTop (mkF m 212 #[rv a1, iv p2, iv p3, iv (x0 &&& (255 : Int32)), iv 3, iv (if (x0 &&& (255 : Int32)) = (224 : Int32) then (160 : Int32) else (128 : Int32)), iv (if (x0 &&& (255 : Int32)) = (237 : Int32) then (159 : Int32) else (191 : Int32)), iv (if p3 < (p2 + (3 : Int32)) then (0 : Int32) else (1 : Int32)), iv 1, iv (x1 &&& (255 : Int32))] [(.int (if (x0 &&& (255 : Int32)) = (237 : Int32) then (159 : Int32) else (191 : Int32))), (.int (x1 &&& (255 : Int32)))]))
                    by_cases hb30 : (if (x0 &&& (255 : Int32)) = (237 : Int32) then (159 : Int32) else (191 : Int32)) < (x1 &&& (255 : Int32))
                    · refine Goes.on (fun t k => XS.icmpYes XJ19.here hx rfl (pc0 := 212) (pc' := 219) rfl (hb hby d2_212) rfl (tlt hb30).2.2.1 (by decide) (by decide) k) ?_
                      show Goes p e below QQ (TJ19.setTop (mkF m 219 #[rv a1, iv p2, iv p3, iv (x0 &&& (255 : Int32)), iv 3, iv (if (x0 &&& (255 : Int32)) = (224 : Int32) then (160 : Int32) else (128 : Int32)), iv (if (x0 &&& (255 : Int32)) = (237 : Int32) then (159 : Int32) else (191 : Int32)), iv (if p3 < (p2 + (3 : Int32)) then (0 : Int32) else (1 : Int32)), iv 1, iv (x1 &&& (255 : Int32))] []))
                      refine Goes.on (fun t k => XS.iconst XJ19.here hx rfl (hb hby d2_219) k) ?_
                      show Goes p e below QQ (TJ19.setTop (mkF m 220 #[rv a1, iv p2, iv p3, iv (x0 &&& (255 : Int32)), iv 3, iv (if (x0 &&& (255 : Int32)) = (224 : Int32) then (160 : Int32) else (128 : Int32)), iv (if (x0 &&& (255 : Int32)) = (237 : Int32) then (159 : Int32) else (191 : Int32)), iv (if p3 < (p2 + (3 : Int32)) then (0 : Int32) else (1 : Int32)), iv 1, iv (x1 &&& (255 : Int32))] [(.int 0)]))
                      rw [(((if_neg hb29).trans ((if_pos hb30).trans rfl)) : (if (x1 &&& (255 : Int32)) < (if (x0 &&& (255 : Int32)) = (224 : Int32) then (160 : Int32) else (128 : Int32)) then (0 : Int32) else (if (if (x0 &&& (255 : Int32)) = (237 : Int32) then (159 : Int32) else (191 : Int32)) < (x1 &&& (255 : Int32)) then (0 : Int32) else (1 : Int32))) = (0 : Int32))] at J22
                      exact J22 _ _ XJ19 eJ19 NJ19
                    · refine Goes.on (fun t k => XS.icmpNo XJ19.here hx rfl (hb hby d2_212) rfl (flt hb30).2.2.1 k) ?_
                      show Goes p e below QQ (TJ19.setTop (mkF m 215 #[rv a1, iv p2, iv p3, iv (x0 &&& (255 : Int32)), iv 3, iv (if (x0 &&& (255 : Int32)) = (224 : Int32) then (160 : Int32) else (128 : Int32)), iv (if (x0 &&& (255 : Int32)) = (237 : Int32) then (159 : Int32) else (191 : Int32)), iv (if p3 < (p2 + (3 : Int32)) then (0 : Int32) else (1 : Int32)), iv 1, iv (x1 &&& (255 : Int32))] []))
                      refine Goes.on (fun t k => XS.iconst XJ19.here hx rfl (hb hby d2_215) k) ?_
                      show Goes p e below QQ (TJ19.setTop (mkF m 216 #[rv a1, iv p2, iv p3, iv (x0 &&& (255 : Int32)), iv 3, iv (if (x0 &&& (255 : Int32)) = (224 : Int32) then (160 : Int32) else (128 : Int32)), iv (if (x0 &&& (255 : Int32)) = (237 : Int32) then (159 : Int32) else (191 : Int32)), iv (if p3 < (p2 + (3 : Int32)) then (0 : Int32) else (1 : Int32)), iv 1, iv (x1 &&& (255 : Int32))] [(.int 1)]))
                      refine Goes.on (fun t k => XS.goto XJ19.here hx rfl (pc0 := 216) (pc' := 220) rfl (hb hby d2_216) (by decide) (by decide) k) ?_
                      show Goes p e below QQ (TJ19.setTop (mkF m 220 #[rv a1, iv p2, iv p3, iv (x0 &&& (255 : Int32)), iv 3, iv (if (x0 &&& (255 : Int32)) = (224 : Int32) then (160 : Int32) else (128 : Int32)), iv (if (x0 &&& (255 : Int32)) = (237 : Int32) then (159 : Int32) else (191 : Int32)), iv (if p3 < (p2 + (3 : Int32)) then (0 : Int32) else (1 : Int32)), iv 1, iv (x1 &&& (255 : Int32))] [(.int 1)]))
                      rw [(((if_neg hb29).trans ((if_neg hb30).trans rfl)) : (if (x1 &&& (255 : Int32)) < (if (x0 &&& (255 : Int32)) = (224 : Int32) then (160 : Int32) else (128 : Int32)) then (0 : Int32) else (if (if (x0 &&& (255 : Int32)) = (237 : Int32) then (159 : Int32) else (191 : Int32)) < (x1 &&& (255 : Int32)) then (0 : Int32) else (1 : Int32))) = (1 : Int32))] at J22
                      exact J22 _ _ XJ19 eJ19 NJ19
              show Goes p e below QQ (TJ18.setTop (mkF m 164 #[rv a1, iv p2, iv p3, iv (x0 &&& (255 : Int32)), iv 3, iv (if (x0 &&& (255 : Int32)) = (224 : Int32) then (160 : Int32) else (128 : Int32)), iv (if (x0 &&& (255 : Int32)) = (237 : Int32) then (159 : Int32) else (191 : Int32)), .unset, .unset, .unset] [(.int p3), (.int (p2 + (3 : Int32)))]))
              by_cases hb31 : p3 < (p2 + (3 : Int32))
              · refine Goes.on (fun t k => XS.icmpYes XJ18.here hx rfl (pc0 := 164) (pc' := 171) rfl (hb hby d2_164) rfl (tlt hb31).2.2.1 (by decide) (by decide) k) ?_
                show Goes p e below QQ (TJ18.setTop (mkF m 171 #[rv a1, iv p2, iv p3, iv (x0 &&& (255 : Int32)), iv 3, iv (if (x0 &&& (255 : Int32)) = (224 : Int32) then (160 : Int32) else (128 : Int32)), iv (if (x0 &&& (255 : Int32)) = (237 : Int32) then (159 : Int32) else (191 : Int32)), .unset, .unset, .unset] []))
                refine Goes.on (fun t k => XS.iconst XJ18.here hx rfl (hb hby d2_171) k) ?_
                show Goes p e below QQ (TJ18.setTop (mkF m 172 #[rv a1, iv p2, iv p3, iv (x0 &&& (255 : Int32)), iv 3, iv (if (x0 &&& (255 : Int32)) = (224 : Int32) then (160 : Int32) else (128 : Int32)), iv (if (x0 &&& (255 : Int32)) = (237 : Int32) then (159 : Int32) else (191 : Int32)), .unset, .unset, .unset] [(.int 0)]))
                rw [(((if_pos hb31).trans rfl) : (if p3 < (p2 + (3 : Int32)) then (0 : Int32) else (1 : Int32)) = (0 : Int32))] at J19
                exact J19 _ _ XJ18 eJ18 NJ18
              · refine Goes.on (fun t k => XS.icmpNo XJ18.here hx rfl (hb hby d2_164) rfl (flt hb31).2.2.1 k) ?_
                show Goes p e below QQ (TJ18.setTop (mkF m 167 #[rv a1, iv p2, iv p3, iv (x0 &&& (255 : Int32)), iv 3, iv (if (x0 &&& (255 : Int32)) = (224 : Int32) then (160 : Int32) else (128 : Int32)), iv (if (x0 &&& (255 : Int32)) = (237 : Int32) then (159 : Int32) else (191 : Int32)), .unset, .unset, .unset] []))
                refine Goes.on (fun t k => XS.iconst XJ18.here hx rfl (hb hby d2_167) k) ?_
                show Goes p e below QQ (TJ18.setTop (mkF m 168 #[rv a1, iv p2, iv p3, iv (x0 &&& (255 : Int32)), iv 3, iv (if (x0 &&& (255 : Int32)) = (224 : Int32) then (160 : Int32) else (128 : Int32)), iv (if (x0 &&& (255 : Int32)) = (237 : Int32) then (159 : Int32) else (191 : Int32)), .unset, .unset, .unset] [(.int 1)]))
                refine Goes.on (fun t k => XS.goto XJ18.here hx rfl (pc0 := 168) (pc' := 172) rfl (hb hby d2_168) (by decide) (by decide) k) ?_
                show Goes p e below QQ (TJ18.setTop (mkF m 172 #[rv a1, iv p2, iv p3, iv (x0 &&& (255 : Int32)), iv 3, iv (if (x0 &&& (255 : Int32)) = (224 : Int32) then (160 : Int32) else (128 : Int32)), iv (if (x0 &&& (255 : Int32)) = (237 : Int32) then (159 : Int32) else (191 : Int32)), .unset, .unset, .unset] [(.int 1)]))
                rw [(((if_neg hb31).trans rfl) : (if p3 < (p2 + (3 : Int32)) then (0 : Int32) else (1 : Int32)) = (1 : Int32))] at J19
                exact J19 _ _ XJ18 eJ18 NJ18
            show Goes p e below QQ (TJ17.setTop (mkF m 88 #[rv a1, iv p2, iv p3, iv (x0 &&& (255 : Int32)), iv 3, iv (if (x0 &&& (255 : Int32)) = (224 : Int32) then (160 : Int32) else (128 : Int32)), iv 191, .unset, .unset, .unset] [(.int 237), (.int (x0 &&& (255 : Int32)))]))
            by_cases hb32 : (x0 &&& (255 : Int32)) = (237 : Int32)
            · refine Goes.on (fun t k => XS.icmpNo XJ17.here hx rfl (hb hby d2_88) rfl (teq hb32).2 k) ?_
              show Goes p e below QQ (TJ17.setTop (mkF m 91 #[rv a1, iv p2, iv p3, iv (x0 &&& (255 : Int32)), iv 3, iv (if (x0 &&& (255 : Int32)) = (224 : Int32) then (160 : Int32) else (128 : Int32)), iv 191, .unset, .unset, .unset] []))
              refine Goes.on (fun t k => XS.sipush XJ17.here hx rfl (hb hby d2_91) k) ?_
              show Goes p e below QQ (TJ17.setTop (mkF m 94 #[rv a1, iv p2, iv p3, iv (x0 &&& (255 : Int32)), iv 3, iv (if (x0 &&& (255 : Int32)) = (224 : Int32) then (160 : Int32) else (128 : Int32)), iv 191, .unset, .unset, .unset] [(.int 159)]))
              refine Goes.on (fun t k => XS.goto XJ17.here hx rfl (pc0 := 94) (pc' := 99) rfl (hb hby d2_94) (by decide) (by decide) k) ?_
              show Goes p e below QQ (TJ17.setTop (mkF m 99 #[rv a1, iv p2, iv p3, iv (x0 &&& (255 : Int32)), iv 3, iv (if (x0 &&& (255 : Int32)) = (224 : Int32) then (160 : Int32) else (128 : Int32)), iv 191, .unset, .unset, .unset] [(.int 159)]))
              rw [(((if_pos hb32).trans rfl) : (if (x0 &&& (255 : Int32)) = (237 : Int32) then (159 : Int32) else (191 : Int32)) = (159 : Int32))] at J18
              exact J18 _ _ XJ17 eJ17 NJ17
            · refine Goes.on (fun t k => XS.icmpYes XJ17.here hx rfl (pc0 := 88) (pc' := 97) rfl (hb hby d2_88) rfl (feq hb32).2 (by decide) (by decide) k) ?_
              show Goes p e below QQ (TJ17.setTop (mkF m 97 #[rv a1, iv p2, iv p3, iv (x0 &&& (255 : Int32)), iv 3, iv (if (x0 &&& (255 : Int32)) = (224 : Int32) then (160 : Int32) else (128 : Int32)), iv 191, .unset, .unset, .unset] []))
              refine Goes.on (fun t k => XS.iload XJ17.here hx rfl (hb hby d2_97) rfl k) ?_
              show Goes p e below QQ (TJ17.setTop (mkF m 99 #[rv a1, iv p2, iv p3, iv (x0 &&& (255 : Int32)), iv 3, iv (if (x0 &&& (255 : Int32)) = (224 : Int32) then (160 : Int32) else (128 : Int32)), iv 191, .unset, .unset, .unset] [(.int 191)]))
              rw [(((if_neg hb32).trans rfl) : (if (x0 &&& (255 : Int32)) = (237 : Int32) then (159 : Int32) else (191 : Int32)) = (191 : Int32))] at J18
              exact J18 _ _ XJ17 eJ17 NJ17
          show Goes p e below QQ (s₁.setTop (mkF m 71 #[rv a1, iv p2, iv p3, iv (x0 &&& (255 : Int32)), iv 3, iv 128, iv 191, .unset, .unset, .unset] [(.int 224), (.int (x0 &&& (255 : Int32)))]))
          by_cases hb33 : (x0 &&& (255 : Int32)) = (224 : Int32)
          · refine Goes.on (fun t k => XS.icmpNo X0.here hx rfl (hb hby d2_71) rfl (teq hb33).2 k) ?_
            show Goes p e below QQ (s₁.setTop (mkF m 74 #[rv a1, iv p2, iv p3, iv (x0 &&& (255 : Int32)), iv 3, iv 128, iv 191, .unset, .unset, .unset] []))
            refine Goes.on (fun t k => XS.sipush X0.here hx rfl (hb hby d2_74) k) ?_
            show Goes p e below QQ (s₁.setTop (mkF m 77 #[rv a1, iv p2, iv p3, iv (x0 &&& (255 : Int32)), iv 3, iv 128, iv 191, .unset, .unset, .unset] [(.int 160)]))
            refine Goes.on (fun t k => XS.goto X0.here hx rfl (pc0 := 77) (pc' := 82) rfl (hb hby d2_77) (by decide) (by decide) k) ?_
            show Goes p e below QQ (s₁.setTop (mkF m 82 #[rv a1, iv p2, iv p3, iv (x0 &&& (255 : Int32)), iv 3, iv 128, iv 191, .unset, .unset, .unset] [(.int 160)]))
            rw [(((if_pos hb33).trans rfl) : (if (x0 &&& (255 : Int32)) = (224 : Int32) then (160 : Int32) else (128 : Int32)) = (160 : Int32))] at J17
            exact J17 _ _ X0 e0 N0
          · refine Goes.on (fun t k => XS.icmpYes X0.here hx rfl (pc0 := 71) (pc' := 80) rfl (hb hby d2_71) rfl (feq hb33).2 (by decide) (by decide) k) ?_
            show Goes p e below QQ (s₁.setTop (mkF m 80 #[rv a1, iv p2, iv p3, iv (x0 &&& (255 : Int32)), iv 3, iv 128, iv 191, .unset, .unset, .unset] []))
            refine Goes.on (fun t k => XS.iload X0.here hx rfl (hb hby d2_80) rfl k) ?_
            show Goes p e below QQ (s₁.setTop (mkF m 82 #[rv a1, iv p2, iv p3, iv (x0 &&& (255 : Int32)), iv 3, iv 128, iv 191, .unset, .unset, .unset] [(.int 128)]))
            rw [(((if_neg hb33).trans rfl) : (if (x0 &&& (255 : Int32)) = (224 : Int32) then (160 : Int32) else (128 : Int32)) = (128 : Int32))] at J17
            exact J17 _ _ X0 e0 N0
        · refine Goes.on (fun t k => XS.icmpYes X0.here hx rfl (pc0 := 61) (pc' := 104) rfl (hb hby d2_61) rfl (flt hb16).2.1 (by decide) (by decide) k) ?_
          show Goes p e below QQ (s₁.setTop (mkF m 104 #[rv a1, iv p2, iv p3, iv (x0 &&& (255 : Int32)), .unset, iv 128, iv 191, .unset, .unset, .unset] []))
          refine Goes.on (fun t k => XS.iloadN X0.here hx rfl (hb hby d2_104) rfl k) ?_
          show Goes p e below QQ (s₁.setTop (mkF m 105 #[rv a1, iv p2, iv p3, iv (x0 &&& (255 : Int32)), .unset, iv 128, iv 191, .unset, .unset, .unset] [(.int (x0 &&& (255 : Int32)))]))
          refine Goes.on (fun t k => XS.sipush X0.here hx rfl (hb hby d2_105) k) ?_
          show Goes p e below QQ (s₁.setTop (mkF m 108 #[rv a1, iv p2, iv p3, iv (x0 &&& (255 : Int32)), .unset, iv 128, iv 191, .unset, .unset, .unset] [(.int 245), (.int (x0 &&& (255 : Int32)))]))
          by_cases hb34 : (x0 &&& (255 : Int32)) < (245 : Int32)
          · refine Goes.on (fun t k => XS.icmpNo X0.here hx rfl (hb hby d2_108) rfl (tlt hb34).2.1 k) ?_
            show Goes p e below QQ (s₁.setTop (mkF m 111 #[rv a1, iv p2, iv p3, iv (x0 &&& (255 : Int32)), .unset, iv 128, iv 191, .unset, .unset, .unset] []))
            refine Goes.on (fun t k => XS.iconst X0.here hx rfl (hb hby d2_111) k) ?_
            show Goes p e below QQ (s₁.setTop (mkF m 112 #[rv a1, iv p2, iv p3, iv (x0 &&& (255 : Int32)), .unset, iv 128, iv 191, .unset, .unset, .unset] [(.int 4)]))
            refine Goes.on (fun t k => XS.istore X0.here hx rfl (hb hby d2_112) rfl (l' := #[rv a1, iv p2, iv p3, iv (x0 &&& (255 : Int32)), iv 4, iv 128, iv 191, .unset, .unset, .unset]) rfl k) ?_
            show Goes p e below QQ (s₁.setTop (mkF m 114 #[rv a1, iv p2, iv p3, iv (x0 &&& (255 : Int32)), iv 4, iv 128, iv 191, .unset, .unset, .unset] []))
            refine Goes.on (fun t k => XS.iloadN X0.here hx rfl (hb hby d2_114) rfl k) ?_
            show Goes p e below QQ (s₁.setTop (mkF m 115 #[rv a1, iv p2, iv p3, iv (x0 &&& (255 : Int32)), iv 4, iv 128, iv 191, .unset, .unset, .unset] [(.int (x0 &&& (255 : Int32)))]))
            refine Goes.on (fun t k => XS.sipush X0.here hx rfl (hb hby d2_115) k) ?_
            show Goes p e below QQ (s₁.setTop (mkF m 118 #[rv a1, iv p2, iv p3, iv (x0 &&& (255 : Int32)), iv 4, iv 128, iv 191, .unset, .unset, .unset] [(.int 240), (.int (x0 &&& (255 : Int32)))]))
            have J35 : ∀ (TJ35 : State) (lJ35 : List Loc), Stand p l e ({ frames := 0, cells := 0, slots := 0, locals := 0 } : Room) s m #[(.ref a1), (.int p2), (.int p3)] below meth c TJ35 lJ35 0 0 → TJ35.heap = h0 → Fr n0 lJ35 → Goes p e below QQ (TJ35.setTop (mkF m 129 #[rv a1, iv p2, iv p3, iv (x0 &&& (255 : Int32)), iv 4, iv 128, iv 191, .unset, .unset, .unset] [(.int (if (x0 &&& (255 : Int32)) = (240 : Int32) then (144 : Int32) else (128 : Int32)))])) := by
              intro TJ35 lJ35 XJ35 eJ35 NJ35
              refine Goes.on (fun t k => XS.istore XJ35.here hx rfl (hb hby d2_129) rfl (l' := #[rv a1, iv p2, iv p3, iv (x0 &&& (255 : Int32)), iv 4, iv (if (x0 &&& (255 : Int32)) = (240 : Int32) then (144 : Int32) else (128 : Int32)), iv 191, .unset, .unset, .unset]) rfl k) ?_
              show Goes p e below QQ (TJ35.setTop (mkF m 131 #[rv a1, iv p2, iv p3, iv (x0 &&& (255 : Int32)), iv 4, iv (if (x0 &&& (255 : Int32)) = (240 : Int32) then (144 : Int32) else (128 : Int32)), iv 191, .unset, .unset, .unset] []))
              refine Goes.on (fun t k => XS.iloadN XJ35.here hx rfl (hb hby d2_131) rfl k) ?_
              show Goes p e below QQ (TJ35.setTop (mkF m 132 #[rv a1, iv p2, iv p3, iv (x0 &&& (255 : Int32)), iv 4, iv (if (x0 &&& (255 : Int32)) = (240 : Int32) then (144 : Int32) else (128 : Int32)), iv 191, .unset, .unset, .unset] [(.int (x0 &&& (255 : Int32)))]))
              refine Goes.on (fun t k => XS.sipush XJ35.here hx rfl (hb hby d2_132) k) ?_
              show Goes p e below QQ (TJ35.setTop (mkF m 135 #[rv a1, iv p2, iv p3, iv (x0 &&& (255 : Int32)), iv 4, iv (if (x0 &&& (255 : Int32)) = (240 : Int32) then (144 : Int32) else (128 : Int32)), iv 191, .unset, .unset, .unset] [(.int 244), (.int (x0 &&& (255 : Int32)))]))
              have J36 : ∀ (TJ36 : State) (lJ36 : List Loc), Stand p l e ({ frames := 0, cells := 0, slots := 0, locals := 0 } : Room) s m #[(.ref a1), (.int p2), (.int p3)] below meth c TJ36 lJ36 0 0 → TJ36.heap = h0 → Fr n0 lJ36 → Goes p e below QQ (TJ36.setTop (mkF m 146 #[rv a1, iv p2, iv p3, iv (x0 &&& (255 : Int32)), iv 4, iv (if (x0 &&& (255 : Int32)) = (240 : Int32) then (144 : Int32) else (128 : Int32)), iv 191, .unset, .unset, .unset] [(.int (if (x0 &&& (255 : Int32)) = (244 : Int32) then (143 : Int32) else (191 : Int32)))])) := by
                intro TJ36 lJ36 XJ36 eJ36 NJ36
                refine Goes.on (fun t k => XS.istore XJ36.here hx rfl (hb hby d2_146) rfl (l' := #[rv a1, iv p2, iv p3, iv (x0 &&& (255 : Int32)), iv 4, iv (if (x0 &&& (255 : Int32)) = (240 : Int32) then (144 : Int32) else (128 : Int32)), iv (if (x0 &&& (255 : Int32)) = (244 : Int32) then (143 : Int32) else (191 : Int32)), .unset, .unset, .unset]) rfl k) ?_
                show Goes p e below QQ (TJ36.setTop (mkF m 148 #[rv a1, iv p2, iv p3, iv (x0 &&& (255 : Int32)), iv 4, iv (if (x0 &&& (255 : Int32)) = (240 : Int32) then (144 : Int32) else (128 : Int32)), iv (if (x0 &&& (255 : Int32)) = (244 : Int32) then (143 : Int32) else (191 : Int32)), .unset, .unset, .unset] []))
                refine Goes.on (fun t k => XS.goto XJ36.here hx rfl (pc0 := 148) (pc' := 154) rfl (hb hby d2_148) (by decide) (by decide) k) ?_
                show Goes p e below QQ (TJ36.setTop (mkF m 154 #[rv a1, iv p2, iv p3, iv (x0 &&& (255 : Int32)), iv 4, iv (if (x0 &&& (255 : Int32)) = (240 : Int32) then (144 : Int32) else (128 : Int32)), iv (if (x0 &&& (255 : Int32)) = (244 : Int32) then (143 : Int32) else (191 : Int32)), .unset, .unset, .unset] []))
                refine Goes.on (fun t k => XS.iload XJ36.here hx rfl (hb hby d2_154) rfl k) ?_
                show Goes p e below QQ (TJ36.setTop (mkF m 156 #[rv a1, iv p2, iv p3, iv (x0 &&& (255 : Int32)), iv 4, iv (if (x0 &&& (255 : Int32)) = (240 : Int32) then (144 : Int32) else (128 : Int32)), iv (if (x0 &&& (255 : Int32)) = (244 : Int32) then (143 : Int32) else (191 : Int32)), .unset, .unset, .unset] [(.int 4)]))
                refine Goes.on (fun t k => XS.ifNo XJ36.here hx rfl (hb hby d2_156) rfl ((if0 _ _).trans (tlt (by decide)).2.2.2) k) ?_
                show Goes p e below QQ (TJ36.setTop (mkF m 159 #[rv a1, iv p2, iv p3, iv (x0 &&& (255 : Int32)), iv 4, iv (if (x0 &&& (255 : Int32)) = (240 : Int32) then (144 : Int32) else (128 : Int32)), iv (if (x0 &&& (255 : Int32)) = (244 : Int32) then (143 : Int32) else (191 : Int32)), .unset, .unset, .unset] []))
                refine Goes.on (fun t k => XS.iloadN XJ36.here hx rfl (hb hby d2_159) rfl k) ?_
                show Goes p e below QQ (TJ36.setTop (mkF m 160 #[rv a1, iv p2, iv p3, iv (x0 &&& (255 : Int32)), iv 4, iv (if (x0 &&& (255 : Int32)) = (240 : Int32) then (144 : Int32) else (128 : Int32)), iv (if (x0 &&& (255 : Int32)) = (244 : Int32) then (143 : Int32) else (191 : Int32)), .unset, .unset, .unset] [(.int p2)]))
                refine Goes.on (fun t k => XS.iload XJ36.here hx rfl (hb hby d2_160) rfl k) ?_
                show Goes p e below QQ (TJ36.setTop (mkF m 162 #[rv a1, iv p2, iv p3, iv (x0 &&& (255 : Int32)), iv 4, iv (if (x0 &&& (255 : Int32)) = (240 : Int32) then (144 : Int32) else (128 : Int32)), iv (if (x0 &&& (255 : Int32)) = (244 : Int32) then (143 : Int32) else (191 : Int32)), .unset, .unset, .unset] [(.int 4), (.int p2)]))
                refine Goes.on (fun t k => XS.iadd XJ36.here hx rfl (hb hby d2_162) rfl k) ?_
                show Goes p e below QQ (TJ36.setTop (mkF m 163 #[rv a1, iv p2, iv p3, iv (x0 &&& (255 : Int32)), iv 4, iv (if (x0 &&& (255 : Int32)) = (240 : Int32) then (144 : Int32) else (128 : Int32)), iv (if (x0 &&& (255 : Int32)) = (244 : Int32) then (143 : Int32) else (191 : Int32)), .unset, .unset, .unset] [(.int (p2 + (4 : Int32)))]))
                refine Goes.on (fun t k => XS.iloadN XJ36.here hx rfl (hb hby d2_163) rfl k) ?_
                show Goes p e below QQ (TJ36.setTop (mkF m 164 #[rv a1, iv p2, iv p3, iv (x0 &&& (255 : Int32)), iv 4, iv (if (x0 &&& (255 : Int32)) = (240 : Int32) then (144 : Int32) else (128 : Int32)), iv (if (x0 &&& (255 : Int32)) = (244 : Int32) then (143 : Int32) else (191 : Int32)), .unset, .unset, .unset] [(.int p3), (.int (p2 + (4 : Int32)))]))
                have J37 : ∀ (TJ37 : State) (lJ37 : List Loc), Stand p l e ({ frames := 0, cells := 0, slots := 0, locals := 0 } : Room) s m #[(.ref a1), (.int p2), (.int p3)] below meth c TJ37 lJ37 0 0 → TJ37.heap = h0 → Fr n0 lJ37 → Goes p e below QQ (TJ37.setTop (mkF m 172 #[rv a1, iv p2, iv p3, iv (x0 &&& (255 : Int32)), iv 4, iv (if (x0 &&& (255 : Int32)) = (240 : Int32) then (144 : Int32) else (128 : Int32)), iv (if (x0 &&& (255 : Int32)) = (244 : Int32) then (143 : Int32) else (191 : Int32)), .unset, .unset, .unset] [(.int (if p3 < (p2 + (4 : Int32)) then (0 : Int32) else (1 : Int32)))])) := by
                  intro TJ37 lJ37 XJ37 eJ37 NJ37
                  refine Goes.on (fun t k => XS.istore XJ37.here hx rfl (hb hby d2_172) rfl (l' := #[rv a1, iv p2, iv p3, iv (x0 &&& (255 : Int32)), iv 4, iv (if (x0 &&& (255 : Int32)) = (240 : Int32) then (144 : Int32) else (128 : Int32)), iv (if (x0 &&& (255 : Int32)) = (244 : Int32) then (143 : Int32) else (191 : Int32)), iv (if p3 < (p2 + (4 : Int32)) then (0 : Int32) else (1 : Int32)), .unset, .unset]) rfl k) ?_
                  show Goes p e below QQ (TJ37.setTop (mkF m 174 #[rv a1, iv p2, iv p3, iv (x0 &&& (255 : Int32)), iv 4, iv (if (x0 &&& (255 : Int32)) = (240 : Int32) then (144 : Int32) else (128 : Int32)), iv (if (x0 &&& (255 : Int32)) = (244 : Int32) then (143 : Int32) else (191 : Int32)), iv (if p3 < (p2 + (4 : Int32)) then (0 : Int32) else (1 : Int32)), .unset, .unset] []))
                  refine Goes.on (fun t k => XS.iconst XJ37.here hx rfl (hb hby d2_174) k) ?_
                  show Goes p e below QQ (TJ37.setTop (mkF m 175 #[rv a1, iv p2, iv p3, iv (x0 &&& (255 : Int32)), iv 4, iv (if (x0 &&& (255 : Int32)) = (240 : Int32) then (144 : Int32) else (128 : Int32)), iv (if (x0 &&& (255 : Int32)) = (244 : Int32) then (143 : Int32) else (191 : Int32)), iv (if p3 < (p2 + (4 : Int32)) then (0 : Int32) else (1 : Int32)), .unset, .unset] [(.int 1)]))
                  refine Goes.on (fun t k => XS.istore XJ37.here hx rfl (hb hby d2_175) rfl (l' := #[rv a1, iv p2, iv p3, iv (x0 &&& (255 : Int32)), iv 4, iv (if (x0 &&& (255 : Int32)) = (240 : Int32) then (144 : Int32) else (128 : Int32)), iv (if (x0 &&& (255 : Int32)) = (244 : Int32) then (143 : Int32) else (191 : Int32)), iv (if p3 < (p2 + (4 : Int32)) then (0 : Int32) else (1 : Int32)), iv 1, .unset]) rfl k) ?_
                  show Goes p e below QQ (TJ37.setTop (mkF m 177 #[rv a1, iv p2, iv p3, iv (x0 &&& (255 : Int32)), iv 4, iv (if (x0 &&& (255 : Int32)) = (240 : Int32) then (144 : Int32) else (128 : Int32)), iv (if (x0 &&& (255 : Int32)) = (244 : Int32) then (143 : Int32) else (191 : Int32)), iv (if p3 < (p2 + (4 : Int32)) then (0 : Int32) else (1 : Int32)), iv 1, .unset] []))
                  refine Goes.on (fun t k => XS.iload XJ37.here hx rfl (hb hby d2_177) rfl k) ?_
                  show Goes p e below QQ (TJ37.setTop (mkF m 179 #[rv a1, iv p2, iv p3, iv (x0 &&& (255 : Int32)), iv 4, iv (if (x0 &&& (255 : Int32)) = (240 : Int32) then (144 : Int32) else (128 : Int32)), iv (if (x0 &&& (255 : Int32)) = (244 : Int32) then (143 : Int32) else (191 : Int32)), iv (if p3 < (p2 + (4 : Int32)) then (0 : Int32) else (1 : Int32)), iv 1, .unset] [(.int (if p3 < (p2 + (4 : Int32)) then (0 : Int32) else (1 : Int32)))]))
                  by_cases hb38 : (if p3 < (p2 + (4 : Int32)) then (0 : Int32) else (1 : Int32)) = (0 : Int32)
                  · refine Goes.on (fun t k => XS.ifYes XJ37.here hx rfl (pc0 := 179) (pc' := 238) rfl (hb hby d2_179) rfl ((if0 _ _).trans (teq hb38).1) (by decide) (by decide) k) ?_
                    show Goes p e below QQ (TJ37.setTop (mkF m 238 #[rv a1, iv p2, iv p3, iv (x0 &&& (255 : Int32)), iv 4, iv (if (x0 &&& (255 : Int32)) = (240 : Int32) then (144 : Int32) else (128 : Int32)), iv (if (x0 &&& (255 : Int32)) = (244 : Int32) then (143 : Int32) else (191 : Int32)), iv (if p3 < (p2 + (4 : Int32)) then (0 : Int32) else (1 : Int32)), iv 1, .unset] []))
                    refine Goes.on (fun t k => XS.iload XJ37.here hx rfl (hb hby d2_238) rfl k) ?_
                    show Goes p e below QQ (TJ37.setTop (mkF m 240 #[rv a1, iv p2, iv p3, iv (x0 &&& (255 : Int32)), iv 4, iv (if (x0 &&& (255 : Int32)) = (240 : Int32) then (144 : Int32) else (128 : Int32)), iv (if (x0 &&& (255 : Int32)) = (244 : Int32) then (143 : Int32) else (191 : Int32)), iv (if p3 < (p2 + (4 : Int32)) then (0 : Int32) else (1 : Int32)), iv 1, .unset] [(.int (if p3 < (p2 + (4 : Int32)) then (0 : Int32) else (1 : Int32)))]))
                    refine Goes.on (fun t k => XS.ifYes XJ37.here hx rfl (pc0 := 240) (pc' := 248) rfl (hb hby d2_240) rfl ((if0 _ _).trans (teq hb38).1) (by decide) (by decide) k) ?_
                    show Goes p e below QQ (TJ37.setTop (mkF m 248 #[rv a1, iv p2, iv p3, iv (x0 &&& (255 : Int32)), iv 4, iv (if (x0 &&& (255 : Int32)) = (240 : Int32) then (144 : Int32) else (128 : Int32)), iv (if (x0 &&& (255 : Int32)) = (244 : Int32) then (143 : Int32) else (191 : Int32)), iv (if p3 < (p2 + (4 : Int32)) then (0 : Int32) else (1 : Int32)), iv 1, .unset] []))
                    refine Goes.on (fun t k => XS.iconst XJ37.here hx rfl (hb hby d2_248) k) ?_
                    show Goes p e below QQ (TJ37.setTop (mkF m 249 #[rv a1, iv p2, iv p3, iv (x0 &&& (255 : Int32)), iv 4, iv (if (x0 &&& (255 : Int32)) = (240 : Int32) then (144 : Int32) else (128 : Int32)), iv (if (x0 &&& (255 : Int32)) = (244 : Int32) then (143 : Int32) else (191 : Int32)), iv (if p3 < (p2 + (4 : Int32)) then (0 : Int32) else (1 : Int32)), iv 1, .unset] [(.int 0)]))
                    exact Goes.rI XJ37 hx hret hlk (hb hby d2_249) hQQ ⟨congrArg (fun z => some (Value.int z)) (((if_neg hb2).trans ((if_neg hb6).trans ((if_neg hb7).trans ((if_neg hb16).trans ((if_pos hb34).trans ((if_pos hb38).trans rfl)))))) : (seqF p2 p3 x0 x1 x2 x3) = (0 : Int32)).symm, NJ37, eJ37⟩ (by decide) (by decide)
                  · refine Goes.on (fun t k => XS.ifNo XJ37.here hx rfl (hb hby d2_179) rfl ((if0 _ _).trans (feq hb38).1) k) ?_
                    show Goes p e below QQ (TJ37.setTop (mkF m 182 #[rv a1, iv p2, iv p3, iv (x0 &&& (255 : Int32)), iv 4, iv (if (x0 &&& (255 : Int32)) = (240 : Int32) then (144 : Int32) else (128 : Int32)), iv (if (x0 &&& (255 : Int32)) = (244 : Int32) then (143 : Int32) else (191 : Int32)), iv (if p3 < (p2 + (4 : Int32)) then (0 : Int32) else (1 : Int32)), iv 1, .unset] []))
                    refine Goes.on (fun t k => XS.iload XJ37.here hx rfl (hb hby d2_182) rfl k) ?_
                    show Goes p e below QQ (TJ37.setTop (mkF m 184 #[rv a1, iv p2, iv p3, iv (x0 &&& (255 : Int32)), iv 4, iv (if (x0 &&& (255 : Int32)) = (240 : Int32) then (144 : Int32) else (128 : Int32)), iv (if (x0 &&& (255 : Int32)) = (244 : Int32) then (143 : Int32) else (191 : Int32)), iv (if p3 < (p2 + (4 : Int32)) then (0 : Int32) else (1 : Int32)), iv 1, .unset] [(.int 1)]))
                    refine Goes.on (fun t k => XS.iload XJ37.here hx rfl (hb hby d2_184) rfl k) ?_
                    show Goes p e below QQ (TJ37.setTop (mkF m 186 #[rv a1, iv p2, iv p3, iv (x0 &&& (255 : Int32)), iv 4, iv (if (x0 &&& (255 : Int32)) = (240 : Int32) then (144 : Int32) else (128 : Int32)), iv (if (x0 &&& (255 : Int32)) = (244 : Int32) then (143 : Int32) else (191 : Int32)), iv (if p3 < (p2 + (4 : Int32)) then (0 : Int32) else (1 : Int32)), iv 1, .unset] [(.int 4), (.int 1)]))
                    refine Goes.on (fun t k => XS.icmpNo XJ37.here hx rfl (hb hby d2_186) rfl (tlt (by decide)).2.1 k) ?_
                    show Goes p e below QQ (TJ37.setTop (mkF m 189 #[rv a1, iv p2, iv p3, iv (x0 &&& (255 : Int32)), iv 4, iv (if (x0 &&& (255 : Int32)) = (240 : Int32) then (144 : Int32) else (128 : Int32)), iv (if (x0 &&& (255 : Int32)) = (244 : Int32) then (143 : Int32) else (191 : Int32)), iv (if p3 < (p2 + (4 : Int32)) then (0 : Int32) else (1 : Int32)), iv 1, .unset] []))
                    refine Goes.on (fun t k => XS.aloadN XJ37.here hx rfl (hb hby d2_189) rfl rfl k) ?_
                    show Goes p e below QQ (TJ37.setTop (mkF m 190 #[rv a1, iv p2, iv p3, iv (x0 &&& (255 : Int32)), iv 4, iv (if (x0 &&& (255 : Int32)) = (240 : Int32) then (144 : Int32) else (128 : Int32)), iv (if (x0 &&& (255 : Int32)) = (244 : Int32) then (143 : Int32) else (191 : Int32)), iv (if p3 < (p2 + (4 : Int32)) then (0 : Int32) else (1 : Int32)), iv 1, .unset] [(.ref a1)]))
                    refine Goes.on (fun t k => XS.iloadN XJ37.here hx rfl (hb hby d2_190) rfl k) ?_
                    show Goes p e below QQ (TJ37.setTop (mkF m 191 #[rv a1, iv p2, iv p3, iv (x0 &&& (255 : Int32)), iv 4, iv (if (x0 &&& (255 : Int32)) = (240 : Int32) then (144 : Int32) else (128 : Int32)), iv (if (x0 &&& (255 : Int32)) = (244 : Int32) then (143 : Int32) else (191 : Int32)), iv (if p3 < (p2 + (4 : Int32)) then (0 : Int32) else (1 : Int32)), iv 1, .unset] [(.int p2), (.ref a1)]))
                    refine Goes.on (fun t k => XS.iload XJ37.here hx rfl (hb hby d2_191) rfl k) ?_
                    show Goes p e below QQ (TJ37.setTop (mkF m 193 #[rv a1, iv p2, iv p3, iv (x0 &&& (255 : Int32)), iv 4, iv (if (x0 &&& (255 : Int32)) = (240 : Int32) then (144 : Int32) else (128 : Int32)), iv (if (x0 &&& (255 : Int32)) = (244 : Int32) then (143 : Int32) else (191 : Int32)), iv (if p3 < (p2 + (4 : Int32)) then (0 : Int32) else (1 : Int32)), iv 1, .unset] [(.int 1), (.int p2), (.ref a1)]))
                    refine Goes.on (fun t k => XS.iadd XJ37.here hx rfl (hb hby d2_193) rfl k) ?_
                    show Goes p e below QQ (TJ37.setTop (mkF m 194 #[rv a1, iv p2, iv p3, iv (x0 &&& (255 : Int32)), iv 4, iv (if (x0 &&& (255 : Int32)) = (240 : Int32) then (144 : Int32) else (128 : Int32)), iv (if (x0 &&& (255 : Int32)) = (244 : Int32) then (143 : Int32) else (191 : Int32)), iv (if p3 < (p2 + (4 : Int32)) then (0 : Int32) else (1 : Int32)), iv 1, .unset] [(.int (p2 + (1 : Int32))), (.ref a1)]))
                    obtain ⟨cl39, Ar39, aq39, aS39, aN39, aH39, aG39⟩ := id V_a1
                    have hin39 := inb_of (j := (p2 + (1 : Int32))) aS39 I1
                    have hat39 := Has.at (v := (.int x1)) aH39 hin39 G1
                    refine Goes.on (fun t k => XJ37.baloadBytes hx (j := (p2 + (1 : Int32))) (v := (.int x1)) (by rw [eJ37]; exact Ar39.1) (State.isArrayOf_alike hZ.alike Ar39.2.1) Ar39.2.2 hin39 hat39 (g := (mkF m 194 #[rv a1, iv p2, iv p3, iv (x0 &&& (255 : Int32)), iv 4, iv (if (x0 &&& (255 : Int32)) = (240 : Int32) then (144 : Int32) else (128 : Int32)), iv (if (x0 &&& (255 : Int32)) = (244 : Int32) then (143 : Int32) else (191 : Int32)), iv (if p3 < (p2 + (4 : Int32)) then (0 : Int32) else (1 : Int32)), iv 1, .unset] [(.int (p2 + (1 : Int32))), (.ref a1)])) rfl rfl (hb hby d2_194) t k) ?_
                    show Goes p e below QQ (TJ37.setTop (mkF m 195 #[rv a1, iv p2, iv p3, iv (x0 &&& (255 : Int32)), iv 4, iv (if (x0 &&& (255 : Int32)) = (240 : Int32) then (144 : Int32) else (128 : Int32)), iv (if (x0 &&& (255 : Int32)) = (244 : Int32) then (143 : Int32) else (191 : Int32)), iv (if p3 < (p2 + (4 : Int32)) then (0 : Int32) else (1 : Int32)), iv 1, .unset] [(.int x1)]))
                    refine Goes.on (fun t k => XS.sipush XJ37.here hx rfl (hb hby d2_195) k) ?_
                    show Goes p e below QQ (TJ37.setTop (mkF m 198 #[rv a1, iv p2, iv p3, iv (x0 &&& (255 : Int32)), iv 4, iv (if (x0 &&& (255 : Int32)) = (240 : Int32) then (144 : Int32) else (128 : Int32)), iv (if (x0 &&& (255 : Int32)) = (244 : Int32) then (143 : Int32) else (191 : Int32)), iv (if p3 < (p2 + (4 : Int32)) then (0 : Int32) else (1 : Int32)), iv 1, .unset] [(.int 255), (.int x1)]))
                    refine Goes.on (fun t k => XS.iand XJ37.here hx rfl (hb hby d2_198) rfl k) ?_
                    show Goes p e below QQ (TJ37.setTop (mkF m 199 #[rv a1, iv p2, iv p3, iv (x0 &&& (255 : Int32)), iv 4, iv (if (x0 &&& (255 : Int32)) = (240 : Int32) then (144 : Int32) else (128 : Int32)), iv (if (x0 &&& (255 : Int32)) = (244 : Int32) then (143 : Int32) else (191 : Int32)), iv (if p3 < (p2 + (4 : Int32)) then (0 : Int32) else (1 : Int32)), iv 1, .unset] [(.int (x1 &&& (255 : Int32)))]))
                    refine Goes.on (fun t k => XS.istore XJ37.here hx rfl (hb hby d2_199) rfl (l' := #[rv a1, iv p2, iv p3, iv (x0 &&& (255 : Int32)), iv 4, iv (if (x0 &&& (255 : Int32)) = (240 : Int32) then (144 : Int32) else (128 : Int32)), iv (if (x0 &&& (255 : Int32)) = (244 : Int32) then (143 : Int32) else (191 : Int32)), iv (if p3 < (p2 + (4 : Int32)) then (0 : Int32) else (1 : Int32)), iv 1, iv (x1 &&& (255 : Int32))]) rfl k) ?_
                    show Goes p e below QQ (TJ37.setTop (mkF m 201 #[rv a1, iv p2, iv p3, iv (x0 &&& (255 : Int32)), iv 4, iv (if (x0 &&& (255 : Int32)) = (240 : Int32) then (144 : Int32) else (128 : Int32)), iv (if (x0 &&& (255 : Int32)) = (244 : Int32) then (143 : Int32) else (191 : Int32)), iv (if p3 < (p2 + (4 : Int32)) then (0 : Int32) else (1 : Int32)), iv 1, iv (x1 &&& (255 : Int32))] []))
                    refine Goes.on (fun t k => XS.iload XJ37.here hx rfl (hb hby d2_201) rfl k) ?_
                    show Goes p e below QQ (TJ37.setTop (mkF m 203 #[rv a1, iv p2, iv p3, iv (x0 &&& (255 : Int32)), iv 4, iv (if (x0 &&& (255 : Int32)) = (240 : Int32) then (144 : Int32) else (128 : Int32)), iv (if (x0 &&& (255 : Int32)) = (244 : Int32) then (143 : Int32) else (191 : Int32)), iv (if p3 < (p2 + (4 : Int32)) then (0 : Int32) else (1 : Int32)), iv 1, iv (x1 &&& (255 : Int32))] [(.int (x1 &&& (255 : Int32)))]))
                    refine Goes.on (fun t k => XS.iload XJ37.here hx rfl (hb hby d2_203) rfl k) ?_
                    show Goes p e below QQ (TJ37.setTop (mkF m 205 #[rv a1, iv p2, iv p3, iv (x0 &&& (255 : Int32)), iv 4, iv (if (x0 &&& (255 : Int32)) = (240 : Int32) then (144 : Int32) else (128 : Int32)), iv (if (x0 &&& (255 : Int32)) = (244 : Int32) then (143 : Int32) else (191 : Int32)), iv (if p3 < (p2 + (4 : Int32)) then (0 : Int32) else (1 : Int32)), iv 1, iv (x1 &&& (255 : Int32))] [(.int (if (x0 &&& (255 : Int32)) = (240 : Int32) then (144 : Int32) else (128 : Int32))), (.int (x1 &&& (255 : Int32)))]))
                    have J40 : ∀ (TJ40 : State) (lJ40 : List Loc), Stand p l e ({ frames := 0, cells := 0, slots := 0, locals := 0 } : Room) s m #[(.ref a1), (.int p2), (.int p3)] below meth c TJ40 lJ40 0 0 → TJ40.heap = h0 → Fr n0 lJ40 → Goes p e below QQ (TJ40.setTop (mkF m 220 #[rv a1, iv p2, iv p3, iv (x0 &&& (255 : Int32)), iv 4, iv (if (x0 &&& (255 : Int32)) = (240 : Int32) then (144 : Int32) else (128 : Int32)), iv (if (x0 &&& (255 : Int32)) = (244 : Int32) then (143 : Int32) else (191 : Int32)), iv (if p3 < (p2 + (4 : Int32)) then (0 : Int32) else (1 : Int32)), iv 1, iv (x1 &&& (255 : Int32))] [(.int (if (x1 &&& (255 : Int32)) < (if (x0 &&& (255 : Int32)) = (240 : Int32) then (144 : Int32) else (128 : Int32)) then (0 : Int32) else (if (if (x0 &&& (255 : Int32)) = (244 : Int32) then (143 : Int32) else (191 : Int32)) < (x1 &&& (255 : Int32)) then (0 : Int32) else (1 : Int32))))])) := by
                      intro TJ40 lJ40 XJ40 eJ40 NJ40
                      refine Goes.on (fun t k => XS.istore XJ40.here hx rfl (hb hby d2_220) rfl (l' := #[rv a1, iv p2, iv p3, iv (x0 &&& (255 : Int32)), iv 4, iv (if (x0 &&& (255 : Int32)) = (240 : Int32) then (144 : Int32) else (128 : Int32)), iv (if (x0 &&& (255 : Int32)) = (244 : Int32) then (143 : Int32) else (191 : Int32)), iv (if (x1 &&& (255 : Int32)) < (if (x0 &&& (255 : Int32)) = (240 : Int32) then (144 : Int32) else (128 : Int32)) then (0 : Int32) else (if (if (x0 &&& (255 : Int32)) = (244 : Int32) then (143 : Int32) else (191 : Int32)) < (x1 &&& (255 : Int32)) then (0 : Int32) else (1 : Int32))), iv 1, iv (x1 &&& (255 : Int32))]) rfl k) ?_
                      show Goes p e below QQ (TJ40.setTop (mkF m 222 #[rv a1, iv p2, iv p3, iv (x0 &&& (255 : Int32)), iv 4, iv (if (x0 &&& (255 : Int32)) = (240 : Int32) then (144 : Int32) else (128 : Int32)), iv (if (x0 &&& (255 : Int32)) = (244 : Int32) then (143 : Int32) else (191 : Int32)), iv (if (x1 &&& (255 : Int32)) < (if (x0 &&& (255 : Int32)) = (240 : Int32) then (144 : Int32) else (128 : Int32)) then (0 : Int32) else (if (if (x0 &&& (255 : Int32)) = (244 : Int32) then (143 : Int32) else (191 : Int32)) < (x1 &&& (255 : Int32)) then (0 : Int32) else (1 : Int32))), iv 1, iv (x1 &&& (255 : Int32))] []))
                      refine Goes.on (fun t k => XS.sipush XJ40.here hx rfl (hb hby d2_222) k) ?_
                      show Goes p e below QQ (TJ40.setTop (mkF m 225 #[rv a1, iv p2, iv p3, iv (x0 &&& (255 : Int32)), iv 4, iv (if (x0 &&& (255 : Int32)) = (240 : Int32) then (144 : Int32) else (128 : Int32)), iv (if (x0 &&& (255 : Int32)) = (244 : Int32) then (143 : Int32) else (191 : Int32)), iv (if (x1 &&& (255 : Int32)) < (if (x0 &&& (255 : Int32)) = (240 : Int32) then (144 : Int32) else (128 : Int32)) then (0 : Int32) else (if (if (x0 &&& (255 : Int32)) = (244 : Int32) then (143 : Int32) else (191 : Int32)) < (x1 &&& (255 : Int32)) then (0 : Int32) else (1 : Int32))), iv 1, iv (x1 &&& (255 : Int32))] [(.int 128)]))
                      refine Goes.on (fun t k => XS.istore XJ40.here hx rfl (hb hby d2_225) rfl (l' := #[rv a1, iv p2, iv p3, iv (x0 &&& (255 : Int32)), iv 4, iv 128, iv (if (x0 &&& (255 : Int32)) = (244 : Int32) then (143 : Int32) else (191 : Int32)), iv (if (x1 &&& (255 : Int32)) < (if (x0 &&& (255 : Int32)) = (240 : Int32) then (144 : Int32) else (128 : Int32)) then (0 : Int32) else (if (if (x0 &&& (255 : Int32)) = (244 : Int32) then (143 : Int32) else (191 : Int32)) < (x1 &&& (255 : Int32)) then (0 : Int32) else (1 : Int32))), iv 1, iv (x1 &&& (255 : Int32))]) rfl k) ?_
                      show Goes p e below QQ (TJ40.setTop (mkF m 227 #[rv a1, iv p2, iv p3, iv (x0 &&& (255 : Int32)), iv 4, iv 128, iv (if (x0 &&& (255 : Int32)) = (244 : Int32) then (143 : Int32) else (191 : Int32)), iv (if (x1 &&& (255 : Int32)) < (if (x0 &&& (255 : Int32)) = (240 : Int32) then (144 : Int32) else (128 : Int32)) then (0 : Int32) else (if (if (x0 &&& (255 : Int32)) = (244 : Int32) then (143 : Int32) else (191 : Int32)) < (x1 &&& (255 : Int32)) then (0 : Int32) else (1 : Int32))), iv 1, iv (x1 &&& (255 : Int32))] []))
                      refine Goes.on (fun t k => XS.sipush XJ40.here hx rfl (hb hby d2_227) k) ?_
                      show Goes p e below QQ (TJ40.setTop (mkF m 230 #[rv a1, iv p2, iv p3, iv (x0 &&& (255 : Int32)), iv 4, iv 128, iv (if (x0 &&& (255 : Int32)) = (244 : Int32) then (143 : Int32) else (191 : Int32)), iv (if (x1 &&& (255 : Int32)) < (if (x0 &&& (255 : Int32)) = (240 : Int32) then (144 : Int32) else (128 : Int32)) then (0 : Int32) else (if (if (x0 &&& (255 : Int32)) = (244 : Int32) then (143 : Int32) else (191 : Int32)) < (x1 &&& (255 : Int32)) then (0 : Int32) else (1 : Int32))), iv 1, iv (x1 &&& (255 : Int32))] [(.int 191)]))
                      refine Goes.on (fun t k => XS.istore XJ40.here hx rfl (hb hby d2_230) rfl (l' := #[rv a1, iv p2, iv p3, iv (x0 &&& (255 : Int32)), iv 4, iv 128, iv 191, iv (if (x1 &&& (255 : Int32)) < (if (x0 &&& (255 : Int32)) = (240 : Int32) then (144 : Int32) else (128 : Int32)) then (0 : Int32) else (if (if (x0 &&& (255 : Int32)) = (244 : Int32) then (143 : Int32) else (191 : Int32)) < (x1 &&& (255 : Int32)) then (0 : Int32) else (1 : Int32))), iv 1, iv (x1 &&& (255 : Int32))]) rfl k) ?_
                      show Goes p e below QQ (TJ40.setTop (mkF m 232 #[rv a1, iv p2, iv p3, iv (x0 &&& (255 : Int32)), iv 4, iv 128, iv 191, iv (if (x1 &&& (255 : Int32)) < (if (x0 &&& (255 : Int32)) = (240 : Int32) then (144 : Int32) else (128 : Int32)) then (0 : Int32) else (if (if (x0 &&& (255 : Int32)) = (244 : Int32) then (143 : Int32) else (191 : Int32)) < (x1 &&& (255 : Int32)) then (0 : Int32) else (1 : Int32))), iv 1, iv (x1 &&& (255 : Int32))] []))
                      refine Goes.on (fun t k => XS.iinc XJ40.here hx rfl (hb hby d2_232) rfl (l' := #[rv a1, iv p2, iv p3, iv (x0 &&& (255 : Int32)), iv 4, iv 128, iv 191, iv (if (x1 &&& (255 : Int32)) < (if (x0 &&& (255 : Int32)) = (240 : Int32) then (144 : Int32) else (128 : Int32)) then (0 : Int32) else (if (if (x0 &&& (255 : Int32)) = (244 : Int32) then (143 : Int32) else (191 : Int32)) < (x1 &&& (255 : Int32)) then (0 : Int32) else (1 : Int32))), iv ((1 : Int32) + (1 : Int32)), iv (x1 &&& (255 : Int32))]) rfl k) ?_
                      show Goes p e below QQ (TJ40.setTop (mkF m 235 #[rv a1, iv p2, iv p3, iv (x0 &&& (255 : Int32)), iv 4, iv 128, iv 191, iv (if (x1 &&& (255 : Int32)) < (if (x0 &&& (255 : Int32)) = (240 : Int32) then (144 : Int32) else (128 : Int32)) then (0 : Int32) else (if (if (x0 &&& (255 : Int32)) = (244 : Int32) then (143 : Int32) else (191 : Int32)) < (x1 &&& (255 : Int32)) then (0 : Int32) else (1 : Int32))), iv ((1 : Int32) + (1 : Int32)), iv (x1 &&& (255 : Int32))] []))
                      rw [(by decide : ((1 : Int32) + (1 : Int32)) = (2 : Int32))]
                      show Goes p e below QQ (TJ40.setTop (mkF m 235 #[rv a1, iv p2, iv p3, iv (x0 &&& (255 : Int32)), iv 4, iv 128, iv 191, iv (if (x1 &&& (255 : Int32)) < (if (x0 &&& (255 : Int32)) = (240 : Int32) then (144 : Int32) else (128 : Int32)) then (0 : Int32) else (if (if (x0 &&& (255 : Int32)) = (244 : Int32) then (143 : Int32) else (191 : Int32)) < (x1 &&& (255 : Int32)) then (0 : Int32) else (1 : Int32))), iv 2, iv (x1 &&& (255 : Int32))] []))
                      refine Goes.on (fun t k => XS.goto XJ40.here hx rfl (pc0 := 235) (pc' := 177) rfl (hb hby d2_235) (by decide) (by decide) k) ?_
                      show Goes p e below QQ (TJ40.setTop (mkF m 177 #[rv a1, iv p2, iv p3, iv (x0 &&& (255 : Int32)), iv 4, iv 128, iv 191, iv (if (x1 &&& (255 : Int32)) < (if (x0 &&& (255 : Int32)) = (240 : Int32) then (144 : Int32) else (128 : Int32)) then (0 : Int32) else (if (if (x0 &&& (255 : Int32)) = (244 : Int32) then (143 : Int32) else (191 : Int32)) < (x1 &&& (255 : Int32)) then (0 : Int32) else (1 : Int32))), iv 2, iv (x1 &&& (255 : Int32))] []))
                      refine Goes.on (fun t k => XS.iload XJ40.here hx rfl (hb hby d2_177) rfl k) ?_
                      show Goes p e below QQ (TJ40.setTop (mkF m 179 #[rv a1, iv p2, iv p3, iv (x0 &&& (255 : Int32)), iv 4, iv 128, iv 191, iv (if (x1 &&& (255 : Int32)) < (if (x0 &&& (255 : Int32)) = (240 : Int32) then (144 : Int32) else (128 : Int32)) then (0 : Int32) else (if (if (x0 &&& (255 : Int32)) = (244 : Int32) then (143 : Int32) else (191 : Int32)) < (x1 &&& (255 : Int32)) then (0 : Int32) else (1 : Int32))), iv 2, iv (x1 &&& (255 : Int32))] [(.int (if (x1 &&& (255 : Int32)) < (if (x0 &&& (255 : Int32)) = (240 : Int32) then (144 : Int32) else (128 : Int32)) then (0 : Int32) else (if (if (x0 &&& (255 : Int32)) = (244 : Int32) then (143 : Int32) else (191 : Int32)) < (x1 &&& (255 : Int32)) then (0 : Int32) else (1 : Int32))))]))
                      by_cases hb41 : (if (x1 &&& (255 : Int32)) < (if (x0 &&& (255 : Int32)) = (240 : Int32) then (144 : Int32) else (128 : Int32)) then (0 : Int32) else (if (if (x0 &&& (255 : Int32)) = (244 : Int32) then (143 : Int32) else (191 : Int32)) < (x1 &&& (255 : Int32)) then (0 : Int32) else (1 : Int32))) = (0 : Int32)
                      · refine Goes.on (fun t k => XS.ifYes XJ40.here hx rfl (pc0 := 179) (pc' := 238) rfl (hb hby d2_179) rfl ((if0 _ _).trans (teq hb41).1) (by decide) (by decide) k) ?_
                        show Goes p e below QQ (TJ40.setTop (mkF m 238 #[rv a1, iv p2, iv p3, iv (x0 &&& (255 : Int32)), iv 4, iv 128, iv 191, iv (if (x1 &&& (255 : Int32)) < (if (x0 &&& (255 : Int32)) = (240 : Int32) then (144 : Int32) else (128 : Int32)) then (0 : Int32) else (if (if (x0 &&& (255 : Int32)) = (244 : Int32) then (143 : Int32) else (191 : Int32)) < (x1 &&& (255 : Int32)) then (0 : Int32) else (1 : Int32))), iv 2, iv (x1 &&& (255 : Int32))] []))
                        refine Goes.on (fun t k => XS.iload XJ40.here hx rfl (hb hby d2_238) rfl k) ?_
                        show Goes p e below QQ (TJ40.setTop (mkF m 240 #[rv a1, iv p2, iv p3, iv (x0 &&& (255 : Int32)), iv 4, iv 128, iv 191, iv (if (x1 &&& (255 : Int32)) < (if (x0 &&& (255 : Int32)) = (240 : Int32) then (144 : Int32) else (128 : Int32)) then (0 : Int32) else (if (if (x0 &&& (255 : Int32)) = (244 : Int32) then (143 : Int32) else (191 : Int32)) < (x1 &&& (255 : Int32)) then (0 : Int32) else (1 : Int32))), iv 2, iv (x1 &&& (255 : Int32))] [(.int (if (x1 &&& (255 : Int32)) < (if (x0 &&& (255 : Int32)) = (240 : Int32) then (144 : Int32) else (128 : Int32)) then (0 : Int32) else (if (if (x0 &&& (255 : Int32)) = (244 : Int32) then (143 : Int32) else (191 : Int32)) < (x1 &&& (255 : Int32)) then (0 : Int32) else (1 : Int32))))]))
                        refine Goes.on (fun t k => XS.ifYes XJ40.here hx rfl (pc0 := 240) (pc' := 248) rfl (hb hby d2_240) rfl ((if0 _ _).trans (teq hb41).1) (by decide) (by decide) k) ?_
                        show Goes p e below QQ (TJ40.setTop (mkF m 248 #[rv a1, iv p2, iv p3, iv (x0 &&& (255 : Int32)), iv 4, iv 128, iv 191, iv (if (x1 &&& (255 : Int32)) < (if (x0 &&& (255 : Int32)) = (240 : Int32) then (144 : Int32) else (128 : Int32)) then (0 : Int32) else (if (if (x0 &&& (255 : Int32)) = (244 : Int32) then (143 : Int32) else (191 : Int32)) < (x1 &&& (255 : Int32)) then (0 : Int32) else (1 : Int32))), iv 2, iv (x1 &&& (255 : Int32))] []))
                        refine Goes.on (fun t k => XS.iconst XJ40.here hx rfl (hb hby d2_248) k) ?_
                        show Goes p e below QQ (TJ40.setTop (mkF m 249 #[rv a1, iv p2, iv p3, iv (x0 &&& (255 : Int32)), iv 4, iv 128, iv 191, iv (if (x1 &&& (255 : Int32)) < (if (x0 &&& (255 : Int32)) = (240 : Int32) then (144 : Int32) else (128 : Int32)) then (0 : Int32) else (if (if (x0 &&& (255 : Int32)) = (244 : Int32) then (143 : Int32) else (191 : Int32)) < (x1 &&& (255 : Int32)) then (0 : Int32) else (1 : Int32))), iv 2, iv (x1 &&& (255 : Int32))] [(.int 0)]))
                        exact Goes.rI XJ40 hx hret hlk (hb hby d2_249) hQQ ⟨congrArg (fun z => some (Value.int z)) (((if_neg hb2).trans ((if_neg hb6).trans ((if_neg hb7).trans ((if_neg hb16).trans ((if_pos hb34).trans ((if_neg hb38).trans ((if_pos hb41).trans rfl))))))) : (seqF p2 p3 x0 x1 x2 x3) = (0 : Int32)).symm, NJ40, eJ40⟩ (by decide) (by decide)
                      · refine Goes.on (fun t k => XS.ifNo XJ40.here hx rfl (hb hby d2_179) rfl ((if0 _ _).trans (feq hb41).1) k) ?_
                        show Goes p e below QQ (TJ40.setTop (mkF m 182 #[rv a1, iv p2, iv p3, iv (x0 &&& (255 : Int32)), iv 4, iv 128, iv 191, iv (if (x1 &&& (255 : Int32)) < (if (x0 &&& (255 : Int32)) = (240 : Int32) then (144 : Int32) else (128 : Int32)) then (0 : Int32) else (if (if (x0 &&& (255 : Int32)) = (244 : Int32) then (143 : Int32) else (191 : Int32)) < (x1 &&& (255 : Int32)) then (0 : Int32) else (1 : Int32))), iv 2, iv (x1 &&& (255 : Int32))] []))
                        refine Goes.on (fun t k => XS.iload XJ40.here hx rfl (hb hby d2_182) rfl k) ?_
                        show Goes p e below QQ (TJ40.setTop (mkF m 184 #[rv a1, iv p2, iv p3, iv (x0 &&& (255 : Int32)), iv 4, iv 128, iv 191, iv (if (x1 &&& (255 : Int32)) < (if (x0 &&& (255 : Int32)) = (240 : Int32) then (144 : Int32) else (128 : Int32)) then (0 : Int32) else (if (if (x0 &&& (255 : Int32)) = (244 : Int32) then (143 : Int32) else (191 : Int32)) < (x1 &&& (255 : Int32)) then (0 : Int32) else (1 : Int32))), iv 2, iv (x1 &&& (255 : Int32))] [(.int 2)]))
                        refine Goes.on (fun t k => XS.iload XJ40.here hx rfl (hb hby d2_184) rfl k) ?_
                        show Goes p e below QQ (TJ40.setTop (mkF m 186 #[rv a1, iv p2, iv p3, iv (x0 &&& (255 : Int32)), iv 4, iv 128, iv 191, iv (if (x1 &&& (255 : Int32)) < (if (x0 &&& (255 : Int32)) = (240 : Int32) then (144 : Int32) else (128 : Int32)) then (0 : Int32) else (if (if (x0 &&& (255 : Int32)) = (244 : Int32) then (143 : Int32) else (191 : Int32)) < (x1 &&& (255 : Int32)) then (0 : Int32) else (1 : Int32))), iv 2, iv (x1 &&& (255 : Int32))] [(.int 4), (.int 2)]))
                        refine Goes.on (fun t k => XS.icmpNo XJ40.here hx rfl (hb hby d2_186) rfl (tlt (by decide)).2.1 k) ?_
                        show Goes p e below QQ (TJ40.setTop (mkF m 189 #[rv a1, iv p2, iv p3, iv (x0 &&& (255 : Int32)), iv 4, iv 128, iv 191, iv (if (x1 &&& (255 : Int32)) < (if (x0 &&& (255 : Int32)) = (240 : Int32) then (144 : Int32) else (128 : Int32)) then (0 : Int32) else (if (if (x0 &&& (255 : Int32)) = (244 : Int32) then (143 : Int32) else (191 : Int32)) < (x1 &&& (255 : Int32)) then (0 : Int32) else (1 : Int32))), iv 2, iv (x1 &&& (255 : Int32))] []))
                        refine Goes.on (fun t k => XS.aloadN XJ40.here hx rfl (hb hby d2_189) rfl rfl k) ?_
                        show Goes p e below QQ (TJ40.setTop (mkF m 190 #[rv a1, iv p2, iv p3, iv (x0 &&& (255 : Int32)), iv 4, iv 128, iv 191, iv (if (x1 &&& (255 : Int32)) < (if (x0 &&& (255 : Int32)) = (240 : Int32) then (144 : Int32) else (128 : Int32)) then (0 : Int32) else (if (if (x0 &&& (255 : Int32)) = (244 : Int32) then (143 : Int32) else (191 : Int32)) < (x1 &&& (255 : Int32)) then (0 : Int32) else (1 : Int32))), iv 2, iv (x1 &&& (255 : Int32))] [(.ref a1)]))
                        refine Goes.on (fun t k => XS.iloadN XJ40.here hx rfl (hb hby d2_190) rfl k) ?_
                        show Goes p e below QQ (TJ40.setTop (mkF m 191 #[rv a1, iv p2, iv p3, iv (x0 &&& (255 : Int32)), iv 4, iv 128, iv 191, iv (if (x1 &&& (255 : Int32)) < (if (x0 &&& (255 : Int32)) = (240 : Int32) then (144 : Int32) else (128 : Int32)) then (0 : Int32) else (if (if (x0 &&& (255 : Int32)) = (244 : Int32) then (143 : Int32) else (191 : Int32)) < (x1 &&& (255 : Int32)) then (0 : Int32) else (1 : Int32))), iv 2, iv (x1 &&& (255 : Int32))] [(.int p2), (.ref a1)]))
                        refine Goes.on (fun t k => XS.iload XJ40.here hx rfl (hb hby d2_191) rfl k) ?_
                        show Goes p e below QQ (TJ40.setTop (mkF m 193 #[rv a1, iv p2, iv p3, iv (x0 &&& (255 : Int32)), iv 4, iv 128, iv 191, iv (if (x1 &&& (255 : Int32)) < (if (x0 &&& (255 : Int32)) = (240 : Int32) then (144 : Int32) else (128 : Int32)) then (0 : Int32) else (if (if (x0 &&& (255 : Int32)) = (244 : Int32) then (143 : Int32) else (191 : Int32)) < (x1 &&& (255 : Int32)) then (0 : Int32) else (1 : Int32))), iv 2, iv (x1 &&& (255 : Int32))] [(.int 2), (.int p2), (.ref a1)]))
                        refine Goes.on (fun t k => XS.iadd XJ40.here hx rfl (hb hby d2_193) rfl k) ?_
                        show Goes p e below QQ (TJ40.setTop (mkF m 194 #[rv a1, iv p2, iv p3, iv (x0 &&& (255 : Int32)), iv 4, iv 128, iv 191, iv (if (x1 &&& (255 : Int32)) < (if (x0 &&& (255 : Int32)) = (240 : Int32) then (144 : Int32) else (128 : Int32)) then (0 : Int32) else (if (if (x0 &&& (255 : Int32)) = (244 : Int32) then (143 : Int32) else (191 : Int32)) < (x1 &&& (255 : Int32)) then (0 : Int32) else (1 : Int32))), iv 2, iv (x1 &&& (255 : Int32))] [(.int (p2 + (2 : Int32))), (.ref a1)]))
                        obtain ⟨cl42, Ar42, aq42, aS42, aN42, aH42, aG42⟩ := id V_a1
                        have hin42 := inb_of (j := (p2 + (2 : Int32))) aS42 I2
                        have hat42 := Has.at (v := (.int x2)) aH42 hin42 G2
                        refine Goes.on (fun t k => XJ40.baloadBytes hx (j := (p2 + (2 : Int32))) (v := (.int x2)) (by rw [eJ40]; exact Ar42.1) (State.isArrayOf_alike hZ.alike Ar42.2.1) Ar42.2.2 hin42 hat42 (g := (mkF m 194 #[rv a1, iv p2, iv p3, iv (x0 &&& (255 : Int32)), iv 4, iv 128, iv 191, iv (if (x1 &&& (255 : Int32)) < (if (x0 &&& (255 : Int32)) = (240 : Int32) then (144 : Int32) else (128 : Int32)) then (0 : Int32) else (if (if (x0 &&& (255 : Int32)) = (244 : Int32) then (143 : Int32) else (191 : Int32)) < (x1 &&& (255 : Int32)) then (0 : Int32) else (1 : Int32))), iv 2, iv (x1 &&& (255 : Int32))] [(.int (p2 + (2 : Int32))), (.ref a1)])) rfl rfl (hb hby d2_194) t k) ?_
                        show Goes p e below QQ (TJ40.setTop (mkF m 195 #[rv a1, iv p2, iv p3, iv (x0 &&& (255 : Int32)), iv 4, iv 128, iv 191, iv (if (x1 &&& (255 : Int32)) < (if (x0 &&& (255 : Int32)) = (240 : Int32) then (144 : Int32) else (128 : Int32)) then (0 : Int32) else (if (if (x0 &&& (255 : Int32)) = (244 : Int32) then (143 : Int32) else (191 : Int32)) < (x1 &&& (255 : Int32)) then (0 : Int32) else (1 : Int32))), iv 2, iv (x1 &&& (255 : Int32))] [(.int x2)]))
                        refine Goes.on (fun t k => XS.sipush XJ40.here hx rfl (hb hby d2_195) k) ?_
                        show Goes p e below QQ (TJ40.setTop (mkF m 198 #[rv a1, iv p2, iv p3, iv (x0 &&& (255 : Int32)), iv 4, iv 128, iv 191, iv (if (x1 &&& (255 : Int32)) < (if (x0 &&& (255 : Int32)) = (240 : Int32) then (144 : Int32) else (128 : Int32)) then (0 : Int32) else (if (if (x0 &&& (255 : Int32)) = (244 : Int32) then (143 : Int32) else (191 : Int32)) < (x1 &&& (255 : Int32)) then (0 : Int32) else (1 : Int32))), iv 2, iv (x1 &&& (255 : Int32))] [(.int 255), (.int x2)]))
                        refine Goes.on (fun t k => XS.iand XJ40.here hx rfl (hb hby d2_198) rfl k) ?_
                        show Goes p e below QQ (TJ40.setTop (mkF m 199 #[rv a1, iv p2, iv p3, iv (x0 &&& (255 : Int32)), iv 4, iv 128, iv 191, iv (if (x1 &&& (255 : Int32)) < (if (x0 &&& (255 : Int32)) = (240 : Int32) then (144 : Int32) else (128 : Int32)) then (0 : Int32) else (if (if (x0 &&& (255 : Int32)) = (244 : Int32) then (143 : Int32) else (191 : Int32)) < (x1 &&& (255 : Int32)) then (0 : Int32) else (1 : Int32))), iv 2, iv (x1 &&& (255 : Int32))] [(.int (x2 &&& (255 : Int32)))]))
                        refine Goes.on (fun t k => XS.istore XJ40.here hx rfl (hb hby d2_199) rfl (l' := #[rv a1, iv p2, iv p3, iv (x0 &&& (255 : Int32)), iv 4, iv 128, iv 191, iv (if (x1 &&& (255 : Int32)) < (if (x0 &&& (255 : Int32)) = (240 : Int32) then (144 : Int32) else (128 : Int32)) then (0 : Int32) else (if (if (x0 &&& (255 : Int32)) = (244 : Int32) then (143 : Int32) else (191 : Int32)) < (x1 &&& (255 : Int32)) then (0 : Int32) else (1 : Int32))), iv 2, iv (x2 &&& (255 : Int32))]) rfl k) ?_
                        show Goes p e below QQ (TJ40.setTop (mkF m 201 #[rv a1, iv p2, iv p3, iv (x0 &&& (255 : Int32)), iv 4, iv 128, iv 191, iv (if (x1 &&& (255 : Int32)) < (if (x0 &&& (255 : Int32)) = (240 : Int32) then (144 : Int32) else (128 : Int32)) then (0 : Int32) else (if (if (x0 &&& (255 : Int32)) = (244 : Int32) then (143 : Int32) else (191 : Int32)) < (x1 &&& (255 : Int32)) then (0 : Int32) else (1 : Int32))), iv 2, iv (x2 &&& (255 : Int32))] []))
                        refine Goes.on (fun t k => XS.iload XJ40.here hx rfl (hb hby d2_201) rfl k) ?_
                        show Goes p e below QQ (TJ40.setTop (mkF m 203 #[rv a1, iv p2, iv p3, iv (x0 &&& (255 : Int32)), iv 4, iv 128, iv 191, iv (if (x1 &&& (255 : Int32)) < (if (x0 &&& (255 : Int32)) = (240 : Int32) then (144 : Int32) else (128 : Int32)) then (0 : Int32) else (if (if (x0 &&& (255 : Int32)) = (244 : Int32) then (143 : Int32) else (191 : Int32)) < (x1 &&& (255 : Int32)) then (0 : Int32) else (1 : Int32))), iv 2, iv (x2 &&& (255 : Int32))] [(.int (x2 &&& (255 : Int32)))]))
                        refine Goes.on (fun t k => XS.iload XJ40.here hx rfl (hb hby d2_203) rfl k) ?_
                        show Goes p e below QQ (TJ40.setTop (mkF m 205 #[rv a1, iv p2, iv p3, iv (x0 &&& (255 : Int32)), iv 4, iv 128, iv 191, iv (if (x1 &&& (255 : Int32)) < (if (x0 &&& (255 : Int32)) = (240 : Int32) then (144 : Int32) else (128 : Int32)) then (0 : Int32) else (if (if (x0 &&& (255 : Int32)) = (244 : Int32) then (143 : Int32) else (191 : Int32)) < (x1 &&& (255 : Int32)) then (0 : Int32) else (1 : Int32))), iv 2, iv (x2 &&& (255 : Int32))] [(.int 128), (.int (x2 &&& (255 : Int32)))]))
                        have J43 : ∀ (TJ43 : State) (lJ43 : List Loc), Stand p l e ({ frames := 0, cells := 0, slots := 0, locals := 0 } : Room) s m #[(.ref a1), (.int p2), (.int p3)] below meth c TJ43 lJ43 0 0 → TJ43.heap = h0 → Fr n0 lJ43 → Goes p e below QQ (TJ43.setTop (mkF m 220 #[rv a1, iv p2, iv p3, iv (x0 &&& (255 : Int32)), iv 4, iv 128, iv 191, iv (if (x1 &&& (255 : Int32)) < (if (x0 &&& (255 : Int32)) = (240 : Int32) then (144 : Int32) else (128 : Int32)) then (0 : Int32) else (if (if (x0 &&& (255 : Int32)) = (244 : Int32) then (143 : Int32) else (191 : Int32)) < (x1 &&& (255 : Int32)) then (0 : Int32) else (1 : Int32))), iv 2, iv (x2 &&& (255 : Int32))] [(.int (if (x2 &&& (255 : Int32)) < (128 : Int32) then (0 : Int32) else (if (191 : Int32) < (x2 &&& (255 : Int32)) then (0 : Int32) else (1 : Int32))))])) := by
                          intro TJ43 lJ43 XJ43 eJ43 NJ43
                          refine Goes.on (fun t k => XS.istore XJ43.here hx rfl (hb hby d2_220) rfl (l' := #[rv a1, iv p2, iv p3, iv (x0 &&& (255 : Int32)), iv 4, iv 128, iv 191, iv (if (x2 &&& (255 : Int32)) < (128 : Int32) then (0 : Int32) else (if (191 : Int32) < (x2 &&& (255 : Int32)) then (0 : Int32) else (1 : Int32))), iv 2, iv (x2 &&& (255 : Int32))]) rfl k) ?_
                          show Goes p e below QQ (TJ43.setTop (mkF m 222 #[rv a1, iv p2, iv p3, iv (x0 &&& (255 : Int32)), iv 4, iv 128, iv 191, iv (if (x2 &&& (255 : Int32)) < (128 : Int32) then (0 : Int32) else (if (191 : Int32) < (x2 &&& (255 : Int32)) then (0 : Int32) else (1 : Int32))), iv 2, iv (x2 &&& (255 : Int32))] []))
                          refine Goes.on (fun t k => XS.sipush XJ43.here hx rfl (hb hby d2_222) k) ?_
                          show Goes p e below QQ (TJ43.setTop (mkF m 225 #[rv a1, iv p2, iv p3, iv (x0 &&& (255 : Int32)), iv 4, iv 128, iv 191, iv (if (x2 &&& (255 : Int32)) < (128 : Int32) then (0 : Int32) else (if (191 : Int32) < (x2 &&& (255 : Int32)) then (0 : Int32) else (1 : Int32))), iv 2, iv (x2 &&& (255 : Int32))] [(.int 128)]))
                          refine Goes.on (fun t k => XS.istore XJ43.here hx rfl (hb hby d2_225) rfl (l' := #[rv a1, iv p2, iv p3, iv (x0 &&& (255 : Int32)), iv 4, iv 128, iv 191, iv (if (x2 &&& (255 : Int32)) < (128 : Int32) then (0 : Int32) else (if (191 : Int32) < (x2 &&& (255 : Int32)) then (0 : Int32) else (1 : Int32))), iv 2, iv (x2 &&& (255 : Int32))]) rfl k) ?_
                          show Goes p e below QQ (TJ43.setTop (mkF m 227 #[rv a1, iv p2, iv p3, iv (x0 &&& (255 : Int32)), iv 4, iv 128, iv 191, iv (if (x2 &&& (255 : Int32)) < (128 : Int32) then (0 : Int32) else (if (191 : Int32) < (x2 &&& (255 : Int32)) then (0 : Int32) else (1 : Int32))), iv 2, iv (x2 &&& (255 : Int32))] []))
                          refine Goes.on (fun t k => XS.sipush XJ43.here hx rfl (hb hby d2_227) k) ?_
                          show Goes p e below QQ (TJ43.setTop (mkF m 230 #[rv a1, iv p2, iv p3, iv (x0 &&& (255 : Int32)), iv 4, iv 128, iv 191, iv (if (x2 &&& (255 : Int32)) < (128 : Int32) then (0 : Int32) else (if (191 : Int32) < (x2 &&& (255 : Int32)) then (0 : Int32) else (1 : Int32))), iv 2, iv (x2 &&& (255 : Int32))] [(.int 191)]))
                          refine Goes.on (fun t k => XS.istore XJ43.here hx rfl (hb hby d2_230) rfl (l' := #[rv a1, iv p2, iv p3, iv (x0 &&& (255 : Int32)), iv 4, iv 128, iv 191, iv (if (x2 &&& (255 : Int32)) < (128 : Int32) then (0 : Int32) else (if (191 : Int32) < (x2 &&& (255 : Int32)) then (0 : Int32) else (1 : Int32))), iv 2, iv (x2 &&& (255 : Int32))]) rfl k) ?_
                          show Goes p e below QQ (TJ43.setTop (mkF m 232 #[rv a1, iv p2, iv p3, iv (x0 &&& (255 : Int32)), iv 4, iv 128, iv 191, iv (if (x2 &&& (255 : Int32)) < (128 : Int32) then (0 : Int32) else (if (191 : Int32) < (x2 &&& (255 : Int32)) then (0 : Int32) else (1 : Int32))), iv 2, iv (x2 &&& (255 : Int32))] []))
                          refine Goes.on (fun t k => XS.iinc XJ43.here hx rfl (hb hby d2_232) rfl (l' := #[rv a1, iv p2, iv p3, iv (x0 &&& (255 : Int32)), iv 4, iv 128, iv 191, iv (if (x2 &&& (255 : Int32)) < (128 : Int32) then (0 : Int32) else (if (191 : Int32) < (x2 &&& (255 : Int32)) then (0 : Int32) else (1 : Int32))), iv ((2 : Int32) + (1 : Int32)), iv (x2 &&& (255 : Int32))]) rfl k) ?_
                          show Goes p e below QQ (TJ43.setTop (mkF m 235 #[rv a1, iv p2, iv p3, iv (x0 &&& (255 : Int32)), iv 4, iv 128, iv 191, iv (if (x2 &&& (255 : Int32)) < (128 : Int32) then (0 : Int32) else (if (191 : Int32) < (x2 &&& (255 : Int32)) then (0 : Int32) else (1 : Int32))), iv ((2 : Int32) + (1 : Int32)), iv (x2 &&& (255 : Int32))] []))
                          rw [(by decide : ((2 : Int32) + (1 : Int32)) = (3 : Int32))]
                          show Goes p e below QQ (TJ43.setTop (mkF m 235 #[rv a1, iv p2, iv p3, iv (x0 &&& (255 : Int32)), iv 4, iv 128, iv 191, iv (if (x2 &&& (255 : Int32)) < (128 : Int32) then (0 : Int32) else (if (191 : Int32) < (x2 &&& (255 : Int32)) then (0 : Int32) else (1 : Int32))), iv 3, iv (x2 &&& (255 : Int32))] []))
                          refine Goes.on (fun t k => XS.goto XJ43.here hx rfl (pc0 := 235) (pc' := 177) rfl (hb hby d2_235) (by decide) (by decide) k) ?_
                          show Goes p e below QQ (TJ43.setTop (mkF m 177 #[rv a1, iv p2, iv p3, iv (x0 &&& (255 : Int32)), iv 4, iv 128, iv 191, iv (if (x2 &&& (255 : Int32)) < (128 : Int32) then (0 : Int32) else (if (191 : Int32) < (x2 &&& (255 : Int32)) then (0 : Int32) else (1 : Int32))), iv 3, iv (x2 &&& (255 : Int32))] []))
                          refine Goes.on (fun t k => XS.iload XJ43.here hx rfl (hb hby d2_177) rfl k) ?_
                          show Goes p e below QQ (TJ43.setTop (mkF m 179 #[rv a1, iv p2, iv p3, iv (x0 &&& (255 : Int32)), iv 4, iv 128, iv 191, iv (if (x2 &&& (255 : Int32)) < (128 : Int32) then (0 : Int32) else (if (191 : Int32) < (x2 &&& (255 : Int32)) then (0 : Int32) else (1 : Int32))), iv 3, iv (x2 &&& (255 : Int32))] [(.int (if (x2 &&& (255 : Int32)) < (128 : Int32) then (0 : Int32) else (if (191 : Int32) < (x2 &&& (255 : Int32)) then (0 : Int32) else (1 : Int32))))]))
                          by_cases hb44 : (if (x2 &&& (255 : Int32)) < (128 : Int32) then (0 : Int32) else (if (191 : Int32) < (x2 &&& (255 : Int32)) then (0 : Int32) else (1 : Int32))) = (0 : Int32)
                          · refine Goes.on (fun t k => XS.ifYes XJ43.here hx rfl (pc0 := 179) (pc' := 238) rfl (hb hby d2_179) rfl ((if0 _ _).trans (teq hb44).1) (by decide) (by decide) k) ?_
                            show Goes p e below QQ (TJ43.setTop (mkF m 238 #[rv a1, iv p2, iv p3, iv (x0 &&& (255 : Int32)), iv 4, iv 128, iv 191, iv (if (x2 &&& (255 : Int32)) < (128 : Int32) then (0 : Int32) else (if (191 : Int32) < (x2 &&& (255 : Int32)) then (0 : Int32) else (1 : Int32))), iv 3, iv (x2 &&& (255 : Int32))] []))
                            refine Goes.on (fun t k => XS.iload XJ43.here hx rfl (hb hby d2_238) rfl k) ?_
                            show Goes p e below QQ (TJ43.setTop (mkF m 240 #[rv a1, iv p2, iv p3, iv (x0 &&& (255 : Int32)), iv 4, iv 128, iv 191, iv (if (x2 &&& (255 : Int32)) < (128 : Int32) then (0 : Int32) else (if (191 : Int32) < (x2 &&& (255 : Int32)) then (0 : Int32) else (1 : Int32))), iv 3, iv (x2 &&& (255 : Int32))] [(.int (if (x2 &&& (255 : Int32)) < (128 : Int32) then (0 : Int32) else (if (191 : Int32) < (x2 &&& (255 : Int32)) then (0 : Int32) else (1 : Int32))))]))
                            refine Goes.on (fun t k => XS.ifYes XJ43.here hx rfl (pc0 := 240) (pc' := 248) rfl (hb hby d2_240) rfl ((if0 _ _).trans (teq hb44).1) (by decide) (by decide) k) ?_
                            show Goes p e below QQ (TJ43.setTop (mkF m 248 #[rv a1, iv p2, iv p3, iv (x0 &&& (255 : Int32)), iv 4, iv 128, iv 191, iv (if (x2 &&& (255 : Int32)) < (128 : Int32) then (0 : Int32) else (if (191 : Int32) < (x2 &&& (255 : Int32)) then (0 : Int32) else (1 : Int32))), iv 3, iv (x2 &&& (255 : Int32))] []))
                            refine Goes.on (fun t k => XS.iconst XJ43.here hx rfl (hb hby d2_248) k) ?_
                            show Goes p e below QQ (TJ43.setTop (mkF m 249 #[rv a1, iv p2, iv p3, iv (x0 &&& (255 : Int32)), iv 4, iv 128, iv 191, iv (if (x2 &&& (255 : Int32)) < (128 : Int32) then (0 : Int32) else (if (191 : Int32) < (x2 &&& (255 : Int32)) then (0 : Int32) else (1 : Int32))), iv 3, iv (x2 &&& (255 : Int32))] [(.int 0)]))
                            exact Goes.rI XJ43 hx hret hlk (hb hby d2_249) hQQ ⟨congrArg (fun z => some (Value.int z)) (((if_neg hb2).trans ((if_neg hb6).trans ((if_neg hb7).trans ((if_neg hb16).trans ((if_pos hb34).trans ((if_neg hb38).trans ((if_neg hb41).trans ((if_pos hb44).trans rfl)))))))) : (seqF p2 p3 x0 x1 x2 x3) = (0 : Int32)).symm, NJ43, eJ43⟩ (by decide) (by decide)
                          · refine Goes.on (fun t k => XS.ifNo XJ43.here hx rfl (hb hby d2_179) rfl ((if0 _ _).trans (feq hb44).1) k) ?_
                            show Goes p e below QQ (TJ43.setTop (mkF m 182 #[rv a1, iv p2, iv p3, iv (x0 &&& (255 : Int32)), iv 4, iv 128, iv 191, iv (if (x2 &&& (255 : Int32)) < (128 : Int32) then (0 : Int32) else (if (191 : Int32) < (x2 &&& (255 : Int32)) then (0 : Int32) else (1 : Int32))), iv 3, iv (x2 &&& (255 : Int32))] []))
                            refine Goes.on (fun t k => XS.iload XJ43.here hx rfl (hb hby d2_182) rfl k) ?_
                            show Goes p e below QQ (TJ43.setTop (mkF m 184 #[rv a1, iv p2, iv p3, iv (x0 &&& (255 : Int32)), iv 4, iv 128, iv 191, iv (if (x2 &&& (255 : Int32)) < (128 : Int32) then (0 : Int32) else (if (191 : Int32) < (x2 &&& (255 : Int32)) then (0 : Int32) else (1 : Int32))), iv 3, iv (x2 &&& (255 : Int32))] [(.int 3)]))
                            refine Goes.on (fun t k => XS.iload XJ43.here hx rfl (hb hby d2_184) rfl k) ?_
                            show Goes p e below QQ (TJ43.setTop (mkF m 186 #[rv a1, iv p2, iv p3, iv (x0 &&& (255 : Int32)), iv 4, iv 128, iv 191, iv (if (x2 &&& (255 : Int32)) < (128 : Int32) then (0 : Int32) else (if (191 : Int32) < (x2 &&& (255 : Int32)) then (0 : Int32) else (1 : Int32))), iv 3, iv (x2 &&& (255 : Int32))] [(.int 4), (.int 3)]))
                            refine Goes.on (fun t k => XS.icmpNo XJ43.here hx rfl (hb hby d2_186) rfl (tlt (by decide)).2.1 k) ?_
                            show Goes p e below QQ (TJ43.setTop (mkF m 189 #[rv a1, iv p2, iv p3, iv (x0 &&& (255 : Int32)), iv 4, iv 128, iv 191, iv (if (x2 &&& (255 : Int32)) < (128 : Int32) then (0 : Int32) else (if (191 : Int32) < (x2 &&& (255 : Int32)) then (0 : Int32) else (1 : Int32))), iv 3, iv (x2 &&& (255 : Int32))] []))
                            refine Goes.on (fun t k => XS.aloadN XJ43.here hx rfl (hb hby d2_189) rfl rfl k) ?_
                            show Goes p e below QQ (TJ43.setTop (mkF m 190 #[rv a1, iv p2, iv p3, iv (x0 &&& (255 : Int32)), iv 4, iv 128, iv 191, iv (if (x2 &&& (255 : Int32)) < (128 : Int32) then (0 : Int32) else (if (191 : Int32) < (x2 &&& (255 : Int32)) then (0 : Int32) else (1 : Int32))), iv 3, iv (x2 &&& (255 : Int32))] [(.ref a1)]))
                            refine Goes.on (fun t k => XS.iloadN XJ43.here hx rfl (hb hby d2_190) rfl k) ?_
                            show Goes p e below QQ (TJ43.setTop (mkF m 191 #[rv a1, iv p2, iv p3, iv (x0 &&& (255 : Int32)), iv 4, iv 128, iv 191, iv (if (x2 &&& (255 : Int32)) < (128 : Int32) then (0 : Int32) else (if (191 : Int32) < (x2 &&& (255 : Int32)) then (0 : Int32) else (1 : Int32))), iv 3, iv (x2 &&& (255 : Int32))] [(.int p2), (.ref a1)]))
                            refine Goes.on (fun t k => XS.iload XJ43.here hx rfl (hb hby d2_191) rfl k) ?_
                            show Goes p e below QQ (TJ43.setTop (mkF m 193 #[rv a1, iv p2, iv p3, iv (x0 &&& (255 : Int32)), iv 4, iv 128, iv 191, iv (if (x2 &&& (255 : Int32)) < (128 : Int32) then (0 : Int32) else (if (191 : Int32) < (x2 &&& (255 : Int32)) then (0 : Int32) else (1 : Int32))), iv 3, iv (x2 &&& (255 : Int32))] [(.int 3), (.int p2), (.ref a1)]))
                            refine Goes.on (fun t k => XS.iadd XJ43.here hx rfl (hb hby d2_193) rfl k) ?_
                            show Goes p e below QQ (TJ43.setTop (mkF m 194 #[rv a1, iv p2, iv p3, iv (x0 &&& (255 : Int32)), iv 4, iv 128, iv 191, iv (if (x2 &&& (255 : Int32)) < (128 : Int32) then (0 : Int32) else (if (191 : Int32) < (x2 &&& (255 : Int32)) then (0 : Int32) else (1 : Int32))), iv 3, iv (x2 &&& (255 : Int32))] [(.int (p2 + (3 : Int32))), (.ref a1)]))
                            obtain ⟨cl45, Ar45, aq45, aS45, aN45, aH45, aG45⟩ := id V_a1
                            have hin45 := inb_of (j := (p2 + (3 : Int32))) aS45 I3
                            have hat45 := Has.at (v := (.int x3)) aH45 hin45 G3
                            refine Goes.on (fun t k => XJ43.baloadBytes hx (j := (p2 + (3 : Int32))) (v := (.int x3)) (by rw [eJ43]; exact Ar45.1) (State.isArrayOf_alike hZ.alike Ar45.2.1) Ar45.2.2 hin45 hat45 (g := (mkF m 194 #[rv a1, iv p2, iv p3, iv (x0 &&& (255 : Int32)), iv 4, iv 128, iv 191, iv (if (x2 &&& (255 : Int32)) < (128 : Int32) then (0 : Int32) else (if (191 : Int32) < (x2 &&& (255 : Int32)) then (0 : Int32) else (1 : Int32))), iv 3, iv (x2 &&& (255 : Int32))] [(.int (p2 + (3 : Int32))), (.ref a1)])) rfl rfl (hb hby d2_194) t k) ?_
                            show Goes p e below QQ (TJ43.setTop (mkF m 195 #[rv a1, iv p2, iv p3, iv (x0 &&& (255 : Int32)), iv 4, iv 128, iv 191, iv (if (x2 &&& (255 : Int32)) < (128 : Int32) then (0 : Int32) else (if (191 : Int32) < (x2 &&& (255 : Int32)) then (0 : Int32) else (1 : Int32))), iv 3, iv (x2 &&& (255 : Int32))] [(.int x3)]))
                            refine Goes.on (fun t k => XS.sipush XJ43.here hx rfl (hb hby d2_195) k) ?_
                            show Goes p e below QQ (TJ43.setTop (mkF m 198 #[rv a1, iv p2, iv p3, iv (x0 &&& (255 : Int32)), iv 4, iv 128, iv 191, iv (if (x2 &&& (255 : Int32)) < (128 : Int32) then (0 : Int32) else (if (191 : Int32) < (x2 &&& (255 : Int32)) then (0 : Int32) else (1 : Int32))), iv 3, iv (x2 &&& (255 : Int32))] [(.int 255), (.int x3)]))
                            refine Goes.on (fun t k => XS.iand XJ43.here hx rfl (hb hby d2_198) rfl k) ?_
                            show Goes p e below QQ (TJ43.setTop (mkF m 199 #[rv a1, iv p2, iv p3, iv (x0 &&& (255 : Int32)), iv 4, iv 128, iv 191, iv (if (x2 &&& (255 : Int32)) < (128 : Int32) then (0 : Int32) else (if (191 : Int32) < (x2 &&& (255 : Int32)) then (0 : Int32) else (1 : Int32))), iv 3, iv (x2 &&& (255 : Int32))] [(.int (x3 &&& (255 : Int32)))]))
                            refine Goes.on (fun t k => XS.istore XJ43.here hx rfl (hb hby d2_199) rfl (l' := #[rv a1, iv p2, iv p3, iv (x0 &&& (255 : Int32)), iv 4, iv 128, iv 191, iv (if (x2 &&& (255 : Int32)) < (128 : Int32) then (0 : Int32) else (if (191 : Int32) < (x2 &&& (255 : Int32)) then (0 : Int32) else (1 : Int32))), iv 3, iv (x3 &&& (255 : Int32))]) rfl k) ?_
                            show Goes p e below QQ (TJ43.setTop (mkF m 201 #[rv a1, iv p2, iv p3, iv (x0 &&& (255 : Int32)), iv 4, iv 128, iv 191, iv (if (x2 &&& (255 : Int32)) < (128 : Int32) then (0 : Int32) else (if (191 : Int32) < (x2 &&& (255 : Int32)) then (0 : Int32) else (1 : Int32))), iv 3, iv (x3 &&& (255 : Int32))] []))
                            refine Goes.on (fun t k => XS.iload XJ43.here hx rfl (hb hby d2_201) rfl k) ?_
                            show Goes p e below QQ (TJ43.setTop (mkF m 203 #[rv a1, iv p2, iv p3, iv (x0 &&& (255 : Int32)), iv 4, iv 128, iv 191, iv (if (x2 &&& (255 : Int32)) < (128 : Int32) then (0 : Int32) else (if (191 : Int32) < (x2 &&& (255 : Int32)) then (0 : Int32) else (1 : Int32))), iv 3, iv (x3 &&& (255 : Int32))] [(.int (x3 &&& (255 : Int32)))]))
                            refine Goes.on (fun t k => XS.iload XJ43.here hx rfl (hb hby d2_203) rfl k) ?_
                            show Goes p e below QQ (TJ43.setTop (mkF m 205 #[rv a1, iv p2, iv p3, iv (x0 &&& (255 : Int32)), iv 4, iv 128, iv 191, iv (if (x2 &&& (255 : Int32)) < (128 : Int32) then (0 : Int32) else (if (191 : Int32) < (x2 &&& (255 : Int32)) then (0 : Int32) else (1 : Int32))), iv 3, iv (x3 &&& (255 : Int32))] [(.int 128), (.int (x3 &&& (255 : Int32)))]))
                            have J46 : ∀ (TJ46 : State) (lJ46 : List Loc), Stand p l e ({ frames := 0, cells := 0, slots := 0, locals := 0 } : Room) s m #[(.ref a1), (.int p2), (.int p3)] below meth c TJ46 lJ46 0 0 → TJ46.heap = h0 → Fr n0 lJ46 → Goes p e below QQ (TJ46.setTop (mkF m 220 #[rv a1, iv p2, iv p3, iv (x0 &&& (255 : Int32)), iv 4, iv 128, iv 191, iv (if (x2 &&& (255 : Int32)) < (128 : Int32) then (0 : Int32) else (if (191 : Int32) < (x2 &&& (255 : Int32)) then (0 : Int32) else (1 : Int32))), iv 3, iv (x3 &&& (255 : Int32))] [(.int (if (x3 &&& (255 : Int32)) < (128 : Int32) then (0 : Int32) else (if (191 : Int32) < (x3 &&& (255 : Int32)) then (0 : Int32) else (1 : Int32))))])) := by
                              intro TJ46 lJ46 XJ46 eJ46 NJ46
                              refine Goes.on (fun t k => XS.istore XJ46.here hx rfl (hb hby d2_220) rfl (l' := #[rv a1, iv p2, iv p3, iv (x0 &&& (255 : Int32)), iv 4, iv 128, iv 191, iv (if (x3 &&& (255 : Int32)) < (128 : Int32) then (0 : Int32) else (if (191 : Int32) < (x3 &&& (255 : Int32)) then (0 : Int32) else (1 : Int32))), iv 3, iv (x3 &&& (255 : Int32))]) rfl k) ?_
                              show Goes p e below QQ (TJ46.setTop (mkF m 222 #[rv a1, iv p2, iv p3, iv (x0 &&& (255 : Int32)), iv 4, iv 128, iv 191, iv (if (x3 &&& (255 : Int32)) < (128 : Int32) then (0 : Int32) else (if (191 : Int32) < (x3 &&& (255 : Int32)) then (0 : Int32) else (1 : Int32))), iv 3, iv (x3 &&& (255 : Int32))] []))
                              refine Goes.on (fun t k => XS.sipush XJ46.here hx rfl (hb hby d2_222) k) ?_
                              show Goes p e below QQ (TJ46.setTop (mkF m 225 #[rv a1, iv p2, iv p3, iv (x0 &&& (255 : Int32)), iv 4, iv 128, iv 191, iv (if (x3 &&& (255 : Int32)) < (128 : Int32) then (0 : Int32) else (if (191 : Int32) < (x3 &&& (255 : Int32)) then (0 : Int32) else (1 : Int32))), iv 3, iv (x3 &&& (255 : Int32))] [(.int 128)]))
                              refine Goes.on (fun t k => XS.istore XJ46.here hx rfl (hb hby d2_225) rfl (l' := #[rv a1, iv p2, iv p3, iv (x0 &&& (255 : Int32)), iv 4, iv 128, iv 191, iv (if (x3 &&& (255 : Int32)) < (128 : Int32) then (0 : Int32) else (if (191 : Int32) < (x3 &&& (255 : Int32)) then (0 : Int32) else (1 : Int32))), iv 3, iv (x3 &&& (255 : Int32))]) rfl k) ?_
                              show Goes p e below QQ (TJ46.setTop (mkF m 227 #[rv a1, iv p2, iv p3, iv (x0 &&& (255 : Int32)), iv 4, iv 128, iv 191, iv (if (x3 &&& (255 : Int32)) < (128 : Int32) then (0 : Int32) else (if (191 : Int32) < (x3 &&& (255 : Int32)) then (0 : Int32) else (1 : Int32))), iv 3, iv (x3 &&& (255 : Int32))] []))
                              refine Goes.on (fun t k => XS.sipush XJ46.here hx rfl (hb hby d2_227) k) ?_
                              show Goes p e below QQ (TJ46.setTop (mkF m 230 #[rv a1, iv p2, iv p3, iv (x0 &&& (255 : Int32)), iv 4, iv 128, iv 191, iv (if (x3 &&& (255 : Int32)) < (128 : Int32) then (0 : Int32) else (if (191 : Int32) < (x3 &&& (255 : Int32)) then (0 : Int32) else (1 : Int32))), iv 3, iv (x3 &&& (255 : Int32))] [(.int 191)]))
                              refine Goes.on (fun t k => XS.istore XJ46.here hx rfl (hb hby d2_230) rfl (l' := #[rv a1, iv p2, iv p3, iv (x0 &&& (255 : Int32)), iv 4, iv 128, iv 191, iv (if (x3 &&& (255 : Int32)) < (128 : Int32) then (0 : Int32) else (if (191 : Int32) < (x3 &&& (255 : Int32)) then (0 : Int32) else (1 : Int32))), iv 3, iv (x3 &&& (255 : Int32))]) rfl k) ?_
                              show Goes p e below QQ (TJ46.setTop (mkF m 232 #[rv a1, iv p2, iv p3, iv (x0 &&& (255 : Int32)), iv 4, iv 128, iv 191, iv (if (x3 &&& (255 : Int32)) < (128 : Int32) then (0 : Int32) else (if (191 : Int32) < (x3 &&& (255 : Int32)) then (0 : Int32) else (1 : Int32))), iv 3, iv (x3 &&& (255 : Int32))] []))
                              refine Goes.on (fun t k => XS.iinc XJ46.here hx rfl (hb hby d2_232) rfl (l' := #[rv a1, iv p2, iv p3, iv (x0 &&& (255 : Int32)), iv 4, iv 128, iv 191, iv (if (x3 &&& (255 : Int32)) < (128 : Int32) then (0 : Int32) else (if (191 : Int32) < (x3 &&& (255 : Int32)) then (0 : Int32) else (1 : Int32))), iv ((3 : Int32) + (1 : Int32)), iv (x3 &&& (255 : Int32))]) rfl k) ?_
                              show Goes p e below QQ (TJ46.setTop (mkF m 235 #[rv a1, iv p2, iv p3, iv (x0 &&& (255 : Int32)), iv 4, iv 128, iv 191, iv (if (x3 &&& (255 : Int32)) < (128 : Int32) then (0 : Int32) else (if (191 : Int32) < (x3 &&& (255 : Int32)) then (0 : Int32) else (1 : Int32))), iv ((3 : Int32) + (1 : Int32)), iv (x3 &&& (255 : Int32))] []))
                              rw [(by decide : ((3 : Int32) + (1 : Int32)) = (4 : Int32))]
                              show Goes p e below QQ (TJ46.setTop (mkF m 235 #[rv a1, iv p2, iv p3, iv (x0 &&& (255 : Int32)), iv 4, iv 128, iv 191, iv (if (x3 &&& (255 : Int32)) < (128 : Int32) then (0 : Int32) else (if (191 : Int32) < (x3 &&& (255 : Int32)) then (0 : Int32) else (1 : Int32))), iv 4, iv (x3 &&& (255 : Int32))] []))
                              refine Goes.on (fun t k => XS.goto XJ46.here hx rfl (pc0 := 235) (pc' := 177) rfl (hb hby d2_235) (by decide) (by decide) k) ?_
                              show Goes p e below QQ (TJ46.setTop (mkF m 177 #[rv a1, iv p2, iv p3, iv (x0 &&& (255 : Int32)), iv 4, iv 128, iv 191, iv (if (x3 &&& (255 : Int32)) < (128 : Int32) then (0 : Int32) else (if (191 : Int32) < (x3 &&& (255 : Int32)) then (0 : Int32) else (1 : Int32))), iv 4, iv (x3 &&& (255 : Int32))] []))
                              refine Goes.on (fun t k => XS.iload XJ46.here hx rfl (hb hby d2_177) rfl k) ?_
                              show Goes p e below QQ (TJ46.setTop (mkF m 179 #[rv a1, iv p2, iv p3, iv (x0 &&& (255 : Int32)), iv 4, iv 128, iv 191, iv (if (x3 &&& (255 : Int32)) < (128 : Int32) then (0 : Int32) else (if (191 : Int32) < (x3 &&& (255 : Int32)) then (0 : Int32) else (1 : Int32))), iv 4, iv (x3 &&& (255 : Int32))] [(.int (if (x3 &&& (255 : Int32)) < (128 : Int32) then (0 : Int32) else (if (191 : Int32) < (x3 &&& (255 : Int32)) then (0 : Int32) else (1 : Int32))))]))
                              by_cases hb47 : (if (x3 &&& (255 : Int32)) < (128 : Int32) then (0 : Int32) else (if (191 : Int32) < (x3 &&& (255 : Int32)) then (0 : Int32) else (1 : Int32))) = (0 : Int32)
                              · refine Goes.on (fun t k => XS.ifYes XJ46.here hx rfl (pc0 := 179) (pc' := 238) rfl (hb hby d2_179) rfl ((if0 _ _).trans (teq hb47).1) (by decide) (by decide) k) ?_
                                show Goes p e below QQ (TJ46.setTop (mkF m 238 #[rv a1, iv p2, iv p3, iv (x0 &&& (255 : Int32)), iv 4, iv 128, iv 191, iv (if (x3 &&& (255 : Int32)) < (128 : Int32) then (0 : Int32) else (if (191 : Int32) < (x3 &&& (255 : Int32)) then (0 : Int32) else (1 : Int32))), iv 4, iv (x3 &&& (255 : Int32))] []))
                                refine Goes.on (fun t k => XS.iload XJ46.here hx rfl (hb hby d2_238) rfl k) ?_
                                show Goes p e below QQ (TJ46.setTop (mkF m 240 #[rv a1, iv p2, iv p3, iv (x0 &&& (255 : Int32)), iv 4, iv 128, iv 191, iv (if (x3 &&& (255 : Int32)) < (128 : Int32) then (0 : Int32) else (if (191 : Int32) < (x3 &&& (255 : Int32)) then (0 : Int32) else (1 : Int32))), iv 4, iv (x3 &&& (255 : Int32))] [(.int (if (x3 &&& (255 : Int32)) < (128 : Int32) then (0 : Int32) else (if (191 : Int32) < (x3 &&& (255 : Int32)) then (0 : Int32) else (1 : Int32))))]))
                                refine Goes.on (fun t k => XS.ifYes XJ46.here hx rfl (pc0 := 240) (pc' := 248) rfl (hb hby d2_240) rfl ((if0 _ _).trans (teq hb47).1) (by decide) (by decide) k) ?_
                                show Goes p e below QQ (TJ46.setTop (mkF m 248 #[rv a1, iv p2, iv p3, iv (x0 &&& (255 : Int32)), iv 4, iv 128, iv 191, iv (if (x3 &&& (255 : Int32)) < (128 : Int32) then (0 : Int32) else (if (191 : Int32) < (x3 &&& (255 : Int32)) then (0 : Int32) else (1 : Int32))), iv 4, iv (x3 &&& (255 : Int32))] []))
                                refine Goes.on (fun t k => XS.iconst XJ46.here hx rfl (hb hby d2_248) k) ?_
                                show Goes p e below QQ (TJ46.setTop (mkF m 249 #[rv a1, iv p2, iv p3, iv (x0 &&& (255 : Int32)), iv 4, iv 128, iv 191, iv (if (x3 &&& (255 : Int32)) < (128 : Int32) then (0 : Int32) else (if (191 : Int32) < (x3 &&& (255 : Int32)) then (0 : Int32) else (1 : Int32))), iv 4, iv (x3 &&& (255 : Int32))] [(.int 0)]))
                                exact Goes.rI XJ46 hx hret hlk (hb hby d2_249) hQQ ⟨congrArg (fun z => some (Value.int z)) (((if_neg hb2).trans ((if_neg hb6).trans ((if_neg hb7).trans ((if_neg hb16).trans ((if_pos hb34).trans ((if_neg hb38).trans ((if_neg hb41).trans ((if_neg hb44).trans ((if_pos hb47).trans rfl))))))))) : (seqF p2 p3 x0 x1 x2 x3) = (0 : Int32)).symm, NJ46, eJ46⟩ (by decide) (by decide)
                              · refine Goes.on (fun t k => XS.ifNo XJ46.here hx rfl (hb hby d2_179) rfl ((if0 _ _).trans (feq hb47).1) k) ?_
                                show Goes p e below QQ (TJ46.setTop (mkF m 182 #[rv a1, iv p2, iv p3, iv (x0 &&& (255 : Int32)), iv 4, iv 128, iv 191, iv (if (x3 &&& (255 : Int32)) < (128 : Int32) then (0 : Int32) else (if (191 : Int32) < (x3 &&& (255 : Int32)) then (0 : Int32) else (1 : Int32))), iv 4, iv (x3 &&& (255 : Int32))] []))
                                refine Goes.on (fun t k => XS.iload XJ46.here hx rfl (hb hby d2_182) rfl k) ?_
                                show Goes p e below QQ (TJ46.setTop (mkF m 184 #[rv a1, iv p2, iv p3, iv (x0 &&& (255 : Int32)), iv 4, iv 128, iv 191, iv (if (x3 &&& (255 : Int32)) < (128 : Int32) then (0 : Int32) else (if (191 : Int32) < (x3 &&& (255 : Int32)) then (0 : Int32) else (1 : Int32))), iv 4, iv (x3 &&& (255 : Int32))] [(.int 4)]))
                                refine Goes.on (fun t k => XS.iload XJ46.here hx rfl (hb hby d2_184) rfl k) ?_
                                show Goes p e below QQ (TJ46.setTop (mkF m 186 #[rv a1, iv p2, iv p3, iv (x0 &&& (255 : Int32)), iv 4, iv 128, iv 191, iv (if (x3 &&& (255 : Int32)) < (128 : Int32) then (0 : Int32) else (if (191 : Int32) < (x3 &&& (255 : Int32)) then (0 : Int32) else (1 : Int32))), iv 4, iv (x3 &&& (255 : Int32))] [(.int 4), (.int 4)]))
                                refine Goes.on (fun t k => XS.icmpYes XJ46.here hx rfl (pc0 := 186) (pc' := 238) rfl (hb hby d2_186) rfl (flt (by decide)).2.1 (by decide) (by decide) k) ?_
                                show Goes p e below QQ (TJ46.setTop (mkF m 238 #[rv a1, iv p2, iv p3, iv (x0 &&& (255 : Int32)), iv 4, iv 128, iv 191, iv (if (x3 &&& (255 : Int32)) < (128 : Int32) then (0 : Int32) else (if (191 : Int32) < (x3 &&& (255 : Int32)) then (0 : Int32) else (1 : Int32))), iv 4, iv (x3 &&& (255 : Int32))] []))
                                refine Goes.on (fun t k => XS.iload XJ46.here hx rfl (hb hby d2_238) rfl k) ?_
                                show Goes p e below QQ (TJ46.setTop (mkF m 240 #[rv a1, iv p2, iv p3, iv (x0 &&& (255 : Int32)), iv 4, iv 128, iv 191, iv (if (x3 &&& (255 : Int32)) < (128 : Int32) then (0 : Int32) else (if (191 : Int32) < (x3 &&& (255 : Int32)) then (0 : Int32) else (1 : Int32))), iv 4, iv (x3 &&& (255 : Int32))] [(.int (if (x3 &&& (255 : Int32)) < (128 : Int32) then (0 : Int32) else (if (191 : Int32) < (x3 &&& (255 : Int32)) then (0 : Int32) else (1 : Int32))))]))
                                refine Goes.on (fun t k => XS.ifNo XJ46.here hx rfl (hb hby d2_240) rfl ((if0 _ _).trans (feq hb47).1) k) ?_
                                show Goes p e below QQ (TJ46.setTop (mkF m 243 #[rv a1, iv p2, iv p3, iv (x0 &&& (255 : Int32)), iv 4, iv 128, iv 191, iv (if (x3 &&& (255 : Int32)) < (128 : Int32) then (0 : Int32) else (if (191 : Int32) < (x3 &&& (255 : Int32)) then (0 : Int32) else (1 : Int32))), iv 4, iv (x3 &&& (255 : Int32))] []))
                                refine Goes.on (fun t k => XS.iload XJ46.here hx rfl (hb hby d2_243) rfl k) ?_
                                show Goes p e below QQ (TJ46.setTop (mkF m 245 #[rv a1, iv p2, iv p3, iv (x0 &&& (255 : Int32)), iv 4, iv 128, iv 191, iv (if (x3 &&& (255 : Int32)) < (128 : Int32) then (0 : Int32) else (if (191 : Int32) < (x3 &&& (255 : Int32)) then (0 : Int32) else (1 : Int32))), iv 4, iv (x3 &&& (255 : Int32))] [(.int 4)]))
                                refine Goes.on (fun t k => XS.goto XJ46.here hx rfl (pc0 := 245) (pc' := 249) rfl (hb hby d2_245) (by decide) (by decide) k) ?_
                                show Goes p e below QQ (TJ46.setTop (mkF m 249 #[rv a1, iv p2, iv p3, iv (x0 &&& (255 : Int32)), iv 4, iv 128, iv 191, iv (if (x3 &&& (255 : Int32)) < (128 : Int32) then (0 : Int32) else (if (191 : Int32) < (x3 &&& (255 : Int32)) then (0 : Int32) else (1 : Int32))), iv 4, iv (x3 &&& (255 : Int32))] [(.int 4)]))
                                exact Goes.rI XJ46 hx hret hlk (hb hby d2_249) hQQ ⟨congrArg (fun z => some (Value.int z)) (((if_neg hb2).trans ((if_neg hb6).trans ((if_neg hb7).trans ((if_neg hb16).trans ((if_pos hb34).trans ((if_neg hb38).trans ((if_neg hb41).trans ((if_neg hb44).trans ((if_neg hb47).trans rfl))))))))) : (seqF p2 p3 x0 x1 x2 x3) = (4 : Int32)).symm, NJ46, eJ46⟩ (by decide) (by decide)
                            show Goes p e below QQ (TJ43.setTop (mkF m 205 #[rv a1, iv p2, iv p3, iv (x0 &&& (255 : Int32)), iv 4, iv 128, iv 191, iv (if (x2 &&& (255 : Int32)) < (128 : Int32) then (0 : Int32) else (if (191 : Int32) < (x2 &&& (255 : Int32)) then (0 : Int32) else (1 : Int32))), iv 3, iv (x3 &&& (255 : Int32))] [(.int 128), (.int (x3 &&& (255 : Int32)))]))
                            by_cases hb48 : (x3 &&& (255 : Int32)) < (128 : Int32)
                            · refine Goes.on (fun t k => XS.icmpYes XJ43.here hx rfl (pc0 := 205) (pc' := 219) rfl (hb hby d2_205) rfl (tlt hb48).1 (by decide) (by decide) k) ?_
                              show Goes p e below QQ (TJ43.setTop (mkF m 219 #[rv a1, iv p2, iv p3, iv (x0 &&& (255 : Int32)), iv 4, iv 128, iv 191, iv (if (x2 &&& (255 : Int32)) < (128 : Int32) then (0 : Int32) else (if (191 : Int32) < (x2 &&& (255 : Int32)) then (0 : Int32) else (1 : Int32))), iv 3, iv (x3 &&& (255 : Int32))] []))
                              refine Goes.on (fun t k => XS.iconst XJ43.here hx rfl (hb hby d2_219) k) ?_
                              show Goes p e below QQ (TJ43.setTop (mkF m 220 #[rv a1, iv p2, iv p3, iv (x0 &&& (255 : Int32)), iv 4, iv 128, iv 191, iv (if (x2 &&& (255 : Int32)) < (128 : Int32) then (0 : Int32) else (if (191 : Int32) < (x2 &&& (255 : Int32)) then (0 : Int32) else (1 : Int32))), iv 3, iv (x3 &&& (255 : Int32))] [(.int 0)]))
                              rw [(((if_pos hb48).trans rfl) : (if (x3 &&& (255 : Int32)) < (128 : Int32) then (0 : Int32) else (if (191 : Int32) < (x3 &&& (255 : Int32)) then (0 : Int32) else (1 : Int32))) = (0 : Int32))] at J46
                              exact J46 _ _ XJ43 eJ43 NJ43
                            · refine Goes.on (fun t k => XS.icmpNo XJ43.here hx rfl (hb hby d2_205) rfl (flt hb48).1 k) ?_
                              show Goes p e below QQ (TJ43.setTop (mkF m 208 #[rv a1, iv p2, iv p3, iv (x0 &&& (255 : Int32)), iv 4, iv 128, iv 191, iv (if (x2 &&& (255 : Int32)) < (128 : Int32) then (0 : Int32) else (if (191 : Int32) < (x2 &&& (255 : Int32)) then (0 : Int32) else (1 : Int32))), iv 3, iv (x3 &&& (255 : Int32))] []))
                              refine Goes.on (fun t k => XS.iload XJ43.here hx rfl (hb hby d2_208) rfl k) ?_
                              show Goes p e below QQ (TJ43.setTop (mkF m 210 #[rv a1, iv p2, iv p3, iv (x0 &&& (255 : Int32)), iv 4, iv 128, iv 191, iv (if (x2 &&& (255 : Int32)) < (128 : Int32) then (0 : Int32) else (if (191 : Int32) < (x2 &&& (255 : Int32)) then (0 : Int32) else (1 : Int32))), iv 3, iv (x3 &&& (255 : Int32))] [(.int (x3 &&& (255 : Int32)))]))
                              refine Goes.on (fun t k => XS.iload XJ43.here hx rfl (hb hby d2_210) rfl k) ?_
                              show Goes p e below QQ (TJ43.setTop (mkF m 212 #[rv a1, iv p2, iv p3, iv (x0 &&& (255 : Int32)), iv 4, iv 128, iv 191, iv (if (x2 &&& (255 : Int32)) < (128 : Int32) then (0 : Int32) else (if (191 : Int32) < (x2 &&& (255 : Int32)) then (0 : Int32) else (1 : Int32))), iv 3, iv (x3 &&& (255 : Int32))] [(.int 191), (.int (x3 &&& (255 : Int32)))]))
                              by_cases hb49 : (191 : Int32) < (x3 &&& (255 : Int32))
                              · refine Goes.on (fun t k => XS.icmpYes XJ43.here hx rfl (pc0 := 212) (pc' := 219) rfl (hb hby d2_212) rfl (tlt hb49).2.2.1 (by decide) (by decide) k) ?_
                                show Goes p e below QQ (TJ43.setTop (mkF m 219 #[rv a1, iv p2, iv p3, iv (x0 &&& (255 : Int32)), iv 4, iv 128, iv 191, iv (if (x2 &&& (255 : Int32)) < (128 : Int32) then (0 : Int32) else (if (191 : Int32) < (x2 &&& (255 : Int32)) then (0 : Int32) else (1 : Int32))), iv 3, iv (x3 &&& (255 : Int32))] []))
                                refine Goes.on (fun t k => XS.iconst XJ43.here hx rfl (hb hby d2_219) k) ?_
                                show Goes p e below QQ (TJ43.setTop (mkF m 220 #[rv a1, iv p2, iv p3, iv (x0 &&& (255 : Int32)), iv 4, iv 128, iv 191, iv (if (x2 &&& (255 : Int32)) < (128 : Int32) then (0 : Int32) else (if (191 : Int32) < (x2 &&& (255 : Int32)) then (0 : Int32) else (1 : Int32))), iv 3, iv (x3 &&& (255 : Int32))] [(.int 0)]))
                                rw [(((if_neg hb48).trans ((if_pos hb49).trans rfl)) : (if (x3 &&& (255 : Int32)) < (128 : Int32) then (0 : Int32) else (if (191 : Int32) < (x3 &&& (255 : Int32)) then (0 : Int32) else (1 : Int32))) = (0 : Int32))] at J46
                                exact J46 _ _ XJ43 eJ43 NJ43
                              · refine Goes.on (fun t k => XS.icmpNo XJ43.here hx rfl (hb hby d2_212) rfl (flt hb49).2.2.1 k) ?_
                                show Goes p e below QQ (TJ43.setTop (mkF m 215 #[rv a1, iv p2, iv p3, iv (x0 &&& (255 : Int32)), iv 4, iv 128, iv 191, iv (if (x2 &&& (255 : Int32)) < (128 : Int32) then (0 : Int32) else (if (191 : Int32) < (x2 &&& (255 : Int32)) then (0 : Int32) else (1 : Int32))), iv 3, iv (x3 &&& (255 : Int32))] []))
                                refine Goes.on (fun t k => XS.iconst XJ43.here hx rfl (hb hby d2_215) k) ?_
                                show Goes p e below QQ (TJ43.setTop (mkF m 216 #[rv a1, iv p2, iv p3, iv (x0 &&& (255 : Int32)), iv 4, iv 128, iv 191, iv (if (x2 &&& (255 : Int32)) < (128 : Int32) then (0 : Int32) else (if (191 : Int32) < (x2 &&& (255 : Int32)) then (0 : Int32) else (1 : Int32))), iv 3, iv (x3 &&& (255 : Int32))] [(.int 1)]))
                                refine Goes.on (fun t k => XS.goto XJ43.here hx rfl (pc0 := 216) (pc' := 220) rfl (hb hby d2_216) (by decide) (by decide) k) ?_
                                show Goes p e below QQ (TJ43.setTop (mkF m 220 #[rv a1, iv p2, iv p3, iv (x0 &&& (255 : Int32)), iv 4, iv 128, iv 191, iv (if (x2 &&& (255 : Int32)) < (128 : Int32) then (0 : Int32) else (if (191 : Int32) < (x2 &&& (255 : Int32)) then (0 : Int32) else (1 : Int32))), iv 3, iv (x3 &&& (255 : Int32))] [(.int 1)]))
                                rw [(((if_neg hb48).trans ((if_neg hb49).trans rfl)) : (if (x3 &&& (255 : Int32)) < (128 : Int32) then (0 : Int32) else (if (191 : Int32) < (x3 &&& (255 : Int32)) then (0 : Int32) else (1 : Int32))) = (1 : Int32))] at J46
                                exact J46 _ _ XJ43 eJ43 NJ43
                        show Goes p e below QQ (TJ40.setTop (mkF m 205 #[rv a1, iv p2, iv p3, iv (x0 &&& (255 : Int32)), iv 4, iv 128, iv 191, iv (if (x1 &&& (255 : Int32)) < (if (x0 &&& (255 : Int32)) = (240 : Int32) then (144 : Int32) else (128 : Int32)) then (0 : Int32) else (if (if (x0 &&& (255 : Int32)) = (244 : Int32) then (143 : Int32) else (191 : Int32)) < (x1 &&& (255 : Int32)) then (0 : Int32) else (1 : Int32))), iv 2, iv (x2 &&& (255 : Int32))] [(.int 128), (.int (x2 &&& (255 : Int32)))]))
                        by_cases hb50 : (x2 &&& (255 : Int32)) < (128 : Int32)
                        · refine Goes.on (fun t k => XS.icmpYes XJ40.here hx rfl (pc0 := 205) (pc' := 219) rfl (hb hby d2_205) rfl (tlt hb50).1 (by decide) (by decide) k) ?_
                          show Goes p e below QQ (TJ40.setTop (mkF m 219 #[rv a1, iv p2, iv p3, iv (x0 &&& (255 : Int32)), iv 4, iv 128, iv 191, iv (if (x1 &&& (255 : Int32)) < (if (x0 &&& (255 : Int32)) = (240 : Int32) then (144 : Int32) else (128 : Int32)) then (0 : Int32) else (if (if (x0 &&& (255 : Int32)) = (244 : Int32) then (143 : Int32) else (191 : Int32)) < (x1 &&& (255 : Int32)) then (0 : Int32) else (1 : Int32))), iv 2, iv (x2 &&& (255 : Int32))] []))
                          refine Goes.on (fun t k => XS.iconst XJ40.here hx rfl (hb hby d2_219) k) ?_
                          show Goes p e below QQ (TJ40.setTop (mkF m 220 #[rv a1, iv p2, iv p3, iv (x0 &&& (255 : Int32)), iv 4, iv 128, iv 191, iv (if (x1 &&& (255 : Int32)) < (if (x0 &&& (255 : Int32)) = (240 : Int32) then (144 : Int32) else (128 : Int32)) then (0 : Int32) else (if (if (x0 &&& (255 : Int32)) = (244 : Int32) then (143 : Int32) else (191 : Int32)) < (x1 &&& (255 : Int32)) then (0 : Int32) else (1 : Int32))), iv 2, iv (x2 &&& (255 : Int32))] [(.int 0)]))
                          rw [(((if_pos hb50).trans rfl) : (if (x2 &&& (255 : Int32)) < (128 : Int32) then (0 : Int32) else (if (191 : Int32) < (x2 &&& (255 : Int32)) then (0 : Int32) else (1 : Int32))) = (0 : Int32))] at J43
                          exact J43 _ _ XJ40 eJ40 NJ40
                        · refine Goes.on (fun t k => XS.icmpNo XJ40.here hx rfl (hb hby d2_205) rfl (flt hb50).1 k) ?_
                          show Goes p e below QQ (TJ40.setTop (mkF m 208 #[rv a1, iv p2, iv p3, iv (x0 &&& (255 : Int32)), iv 4, iv 128, iv 191, iv (if (x1 &&& (255 : Int32)) < (if (x0 &&& (255 : Int32)) = (240 : Int32) then (144 : Int32) else (128 : Int32)) then (0 : Int32) else (if (if (x0 &&& (255 : Int32)) = (244 : Int32) then (143 : Int32) else (191 : Int32)) < (x1 &&& (255 : Int32)) then (0 : Int32) else (1 : Int32))), iv 2, iv (x2 &&& (255 : Int32))] []))
                          refine Goes.on (fun t k => XS.iload XJ40.here hx rfl (hb hby d2_208) rfl k) ?_
                          show Goes p e below QQ (TJ40.setTop (mkF m 210 #[rv a1, iv p2, iv p3, iv (x0 &&& (255 : Int32)), iv 4, iv 128, iv 191, iv (if (x1 &&& (255 : Int32)) < (if (x0 &&& (255 : Int32)) = (240 : Int32) then (144 : Int32) else (128 : Int32)) then (0 : Int32) else (if (if (x0 &&& (255 : Int32)) = (244 : Int32) then (143 : Int32) else (191 : Int32)) < (x1 &&& (255 : Int32)) then (0 : Int32) else (1 : Int32))), iv 2, iv (x2 &&& (255 : Int32))] [(.int (x2 &&& (255 : Int32)))]))
                          refine Goes.on (fun t k => XS.iload XJ40.here hx rfl (hb hby d2_210) rfl k) ?_
                          show Goes p e below QQ (TJ40.setTop (mkF m 212 #[rv a1, iv p2, iv p3, iv (x0 &&& (255 : Int32)), iv 4, iv 128, iv 191, iv (if (x1 &&& (255 : Int32)) < (if (x0 &&& (255 : Int32)) = (240 : Int32) then (144 : Int32) else (128 : Int32)) then (0 : Int32) else (if (if (x0 &&& (255 : Int32)) = (244 : Int32) then (143 : Int32) else (191 : Int32)) < (x1 &&& (255 : Int32)) then (0 : Int32) else (1 : Int32))), iv 2, iv (x2 &&& (255 : Int32))] [(.int 191), (.int (x2 &&& (255 : Int32)))]))
                          by_cases hb51 : (191 : Int32) < (x2 &&& (255 : Int32))
                          · refine Goes.on (fun t k => XS.icmpYes XJ40.here hx rfl (pc0 := 212) (pc' := 219) rfl (hb hby d2_212) rfl (tlt hb51).2.2.1 (by decide) (by decide) k) ?_
                            show Goes p e below QQ (TJ40.setTop (mkF m 219 #[rv a1, iv p2, iv p3, iv (x0 &&& (255 : Int32)), iv 4, iv 128, iv 191, iv (if (x1 &&& (255 : Int32)) < (if (x0 &&& (255 : Int32)) = (240 : Int32) then (144 : Int32) else (128 : Int32)) then (0 : Int32) else (if (if (x0 &&& (255 : Int32)) = (244 : Int32) then (143 : Int32) else (191 : Int32)) < (x1 &&& (255 : Int32)) then (0 : Int32) else (1 : Int32))), iv 2, iv (x2 &&& (255 : Int32))] []))
                            refine Goes.on (fun t k => XS.iconst XJ40.here hx rfl (hb hby d2_219) k) ?_
                            show Goes p e below QQ (TJ40.setTop (mkF m 220 #[rv a1, iv p2, iv p3, iv (x0 &&& (255 : Int32)), iv 4, iv 128, iv 191, iv (if (x1 &&& (255 : Int32)) < (if (x0 &&& (255 : Int32)) = (240 : Int32) then (144 : Int32) else (128 : Int32)) then (0 : Int32) else (if (if (x0 &&& (255 : Int32)) = (244 : Int32) then (143 : Int32) else (191 : Int32)) < (x1 &&& (255 : Int32)) then (0 : Int32) else (1 : Int32))), iv 2, iv (x2 &&& (255 : Int32))] [(.int 0)]))
                            rw [(((if_neg hb50).trans ((if_pos hb51).trans rfl)) : (if (x2 &&& (255 : Int32)) < (128 : Int32) then (0 : Int32) else (if (191 : Int32) < (x2 &&& (255 : Int32)) then (0 : Int32) else (1 : Int32))) = (0 : Int32))] at J43
                            exact J43 _ _ XJ40 eJ40 NJ40
                          · refine Goes.on (fun t k => XS.icmpNo XJ40.here hx rfl (hb hby d2_212) rfl (flt hb51).2.2.1 k) ?_
                            show Goes p e below QQ (TJ40.setTop (mkF m 215 #[rv a1, iv p2, iv p3, iv (x0 &&& (255 : Int32)), iv 4, iv 128, iv 191, iv (if (x1 &&& (255 : Int32)) < (if (x0 &&& (255 : Int32)) = (240 : Int32) then (144 : Int32) else (128 : Int32)) then (0 : Int32) else (if (if (x0 &&& (255 : Int32)) = (244 : Int32) then (143 : Int32) else (191 : Int32)) < (x1 &&& (255 : Int32)) then (0 : Int32) else (1 : Int32))), iv 2, iv (x2 &&& (255 : Int32))] []))
                            refine Goes.on (fun t k => XS.iconst XJ40.here hx rfl (hb hby d2_215) k) ?_
                            show Goes p e below QQ (TJ40.setTop (mkF m 216 #[rv a1, iv p2, iv p3, iv (x0 &&& (255 : Int32)), iv 4, iv 128, iv 191, iv (if (x1 &&& (255 : Int32)) < (if (x0 &&& (255 : Int32)) = (240 : Int32) then (144 : Int32) else (128 : Int32)) then (0 : Int32) else (if (if (x0 &&& (255 : Int32)) = (244 : Int32) then (143 : Int32) else (191 : Int32)) < (x1 &&& (255 : Int32)) then (0 : Int32) else (1 : Int32))), iv 2, iv (x2 &&& (255 : Int32))] [(.int 1)]))
                            refine Goes.on (fun t k => XS.goto XJ40.here hx rfl (pc0 := 216) (pc' := 220) rfl (hb hby d2_216) (by decide) (by decide) k) ?_
                            show Goes p e below QQ (TJ40.setTop (mkF m 220 #[rv a1, iv p2, iv p3, iv (x0 &&& (255 : Int32)), iv 4, iv 128, iv 191, iv (if (x1 &&& (255 : Int32)) < (if (x0 &&& (255 : Int32)) = (240 : Int32) then (144 : Int32) else (128 : Int32)) then (0 : Int32) else (if (if (x0 &&& (255 : Int32)) = (244 : Int32) then (143 : Int32) else (191 : Int32)) < (x1 &&& (255 : Int32)) then (0 : Int32) else (1 : Int32))), iv 2, iv (x2 &&& (255 : Int32))] [(.int 1)]))
                            rw [(((if_neg hb50).trans ((if_neg hb51).trans rfl)) : (if (x2 &&& (255 : Int32)) < (128 : Int32) then (0 : Int32) else (if (191 : Int32) < (x2 &&& (255 : Int32)) then (0 : Int32) else (1 : Int32))) = (1 : Int32))] at J43
                            exact J43 _ _ XJ40 eJ40 NJ40
                    show Goes p e below QQ (TJ37.setTop (mkF m 205 #[rv a1, iv p2, iv p3, iv (x0 &&& (255 : Int32)), iv 4, iv (if (x0 &&& (255 : Int32)) = (240 : Int32) then (144 : Int32) else (128 : Int32)), iv (if (x0 &&& (255 : Int32)) = (244 : Int32) then (143 : Int32) else (191 : Int32)), iv (if p3 < (p2 + (4 : Int32)) then (0 : Int32) else (1 : Int32)), iv 1, iv (x1 &&& (255 : Int32))] [(.int (if (x0 &&& (255 : Int32)) = (240 : Int32) then (144 : Int32) else (128 : Int32))), (.int (x1 &&& (255 : Int32)))]))
                    by_cases hb52 : (x1 &&& (255 : Int32)) < (if (x0 &&& (255 : Int32)) = (240 : Int32) then (144 : Int32) else (128 : Int32))
                    · refine Goes.on (fun t k => XS.icmpYes XJ37.here hx rfl (pc0 := 205) (pc' := 219) rfl (hb hby d2_205) rfl (tlt hb52).1 (by decide) (by decide) k) ?_
                      show Goes p e below QQ (TJ37.setTop (mkF m 219 #[rv a1, iv p2, iv p3, iv (x0 &&& (255 : Int32)), iv 4, iv (if (x0 &&& (255 : Int32)) = (240 : Int32) then (144 : Int32) else (128 : Int32)), iv (if (x0 &&& (255 : Int32)) = (244 : Int32) then (143 : Int32) else (191 : Int32)), iv (if p3 < (p2 + (4 : Int32)) then (0 : Int32) else (1 : Int32)), iv 1, iv (x1 &&& (255 : Int32))] []))
                      refine Goes.on (fun t k => XS.iconst XJ37.here hx rfl (hb hby d2_219) k) ?_
                      show Goes p e below QQ (TJ37.setTop (mkF m 220 #[rv a1, iv p2, iv p3, iv (x0 &&& (255 : Int32)), iv 4, iv (if (x0 &&& (255 : Int32)) = (240 : Int32) then (144 : Int32) else (128 : Int32)), iv (if (x0 &&& (255 : Int32)) = (244 : Int32) then (143 : Int32) else (191 : Int32)), iv (if p3 < (p2 + (4 : Int32)) then (0 : Int32) else (1 : Int32)), iv 1, iv (x1 &&& (255 : Int32))] [(.int 0)]))
                      rw [(((if_pos hb52).trans rfl) : (if (x1 &&& (255 : Int32)) < (if (x0 &&& (255 : Int32)) = (240 : Int32) then (144 : Int32) else (128 : Int32)) then (0 : Int32) else (if (if (x0 &&& (255 : Int32)) = (244 : Int32) then (143 : Int32) else (191 : Int32)) < (x1 &&& (255 : Int32)) then (0 : Int32) else (1 : Int32))) = (0 : Int32))] at J40
                      exact J40 _ _ XJ37 eJ37 NJ37
                    · refine Goes.on (fun t k => XS.icmpNo XJ37.here hx rfl (hb hby d2_205) rfl (flt hb52).1 k) ?_
                      show Goes p e below QQ (TJ37.setTop (mkF m 208 #[rv a1, iv p2, iv p3, iv (x0 &&& (255 : Int32)), iv 4, iv (if (x0 &&& (255 : Int32)) = (240 : Int32) then (144 : Int32) else (128 : Int32)), iv (if (x0 &&& (255 : Int32)) = (244 : Int32) then (143 : Int32) else (191 : Int32)), iv (if p3 < (p2 + (4 : Int32)) then (0 : Int32) else (1 : Int32)), iv 1, iv (x1 &&& (255 : Int32))] []))
                      refine Goes.on (fun t k => XS.iload XJ37.here hx rfl (hb hby d2_208) rfl k) ?_
                      show Goes p e below QQ (TJ37.setTop (mkF m 210 #[rv a1, iv p2, iv p3, iv (x0 &&& (255 : Int32)), iv 4, iv (if (x0 &&& (255 : Int32)) = (240 : Int32) then (144 : Int32) else (128 : Int32)), iv (if (x0 &&& (255 : Int32)) = (244 : Int32) then (143 : Int32) else (191 : Int32)), iv (if p3 < (p2 + (4 : Int32)) then (0 : Int32) else (1 : Int32)), iv 1, iv (x1 &&& (255 : Int32))] [(.int (x1 &&& (255 : Int32)))]))
                      refine Goes.on (fun t k => XS.iload XJ37.here hx rfl (hb hby d2_210) rfl k) ?_
                      show Goes p e below QQ (TJ37.setTop (mkF m 212 #[rv a1, iv p2, iv p3, iv (x0 &&& (255 : Int32)), iv 4, iv (if (x0 &&& (255 : Int32)) = (240 : Int32) then (144 : Int32) else (128 : Int32)), iv (if (x0 &&& (255 : Int32)) = (244 : Int32) then (143 : Int32) else (191 : Int32)), iv (if p3 < (p2 + (4 : Int32)) then (0 : Int32) else (1 : Int32)), iv 1, iv (x1 &&& (255 : Int32))] [(.int (if (x0 &&& (255 : Int32)) = (244 : Int32) then (143 : Int32) else (191 : Int32))), (.int (x1 &&& (255 : Int32)))]))
                      by_cases hb53 : (if (x0 &&& (255 : Int32)) = (244 : Int32) then (143 : Int32) else (191 : Int32)) < (x1 &&& (255 : Int32))
                      · refine Goes.on (fun t k => XS.icmpYes XJ37.here hx rfl (pc0 := 212) (pc' := 219) rfl (hb hby d2_212) rfl (tlt hb53).2.2.1 (by decide) (by decide) k) ?_
                        show Goes p e below QQ (TJ37.setTop (mkF m 219 #[rv a1, iv p2, iv p3, iv (x0 &&& (255 : Int32)), iv 4, iv (if (x0 &&& (255 : Int32)) = (240 : Int32) then (144 : Int32) else (128 : Int32)), iv (if (x0 &&& (255 : Int32)) = (244 : Int32) then (143 : Int32) else (191 : Int32)), iv (if p3 < (p2 + (4 : Int32)) then (0 : Int32) else (1 : Int32)), iv 1, iv (x1 &&& (255 : Int32))] []))
                        refine Goes.on (fun t k => XS.iconst XJ37.here hx rfl (hb hby d2_219) k) ?_
                        show Goes p e below QQ (TJ37.setTop (mkF m 220 #[rv a1, iv p2, iv p3, iv (x0 &&& (255 : Int32)), iv 4, iv (if (x0 &&& (255 : Int32)) = (240 : Int32) then (144 : Int32) else (128 : Int32)), iv (if (x0 &&& (255 : Int32)) = (244 : Int32) then (143 : Int32) else (191 : Int32)), iv (if p3 < (p2 + (4 : Int32)) then (0 : Int32) else (1 : Int32)), iv 1, iv (x1 &&& (255 : Int32))] [(.int 0)]))
                        rw [(((if_neg hb52).trans ((if_pos hb53).trans rfl)) : (if (x1 &&& (255 : Int32)) < (if (x0 &&& (255 : Int32)) = (240 : Int32) then (144 : Int32) else (128 : Int32)) then (0 : Int32) else (if (if (x0 &&& (255 : Int32)) = (244 : Int32) then (143 : Int32) else (191 : Int32)) < (x1 &&& (255 : Int32)) then (0 : Int32) else (1 : Int32))) = (0 : Int32))] at J40
                        exact J40 _ _ XJ37 eJ37 NJ37
                      · refine Goes.on (fun t k => XS.icmpNo XJ37.here hx rfl (hb hby d2_212) rfl (flt hb53).2.2.1 k) ?_
                        show Goes p e below QQ (TJ37.setTop (mkF m 215 #[rv a1, iv p2, iv p3, iv (x0 &&& (255 : Int32)), iv 4, iv (if (x0 &&& (255 : Int32)) = (240 : Int32) then (144 : Int32) else (128 : Int32)), iv (if (x0 &&& (255 : Int32)) = (244 : Int32) then (143 : Int32) else (191 : Int32)), iv (if p3 < (p2 + (4 : Int32)) then (0 : Int32) else (1 : Int32)), iv 1, iv (x1 &&& (255 : Int32))] []))
                        refine Goes.on (fun t k => XS.iconst XJ37.here hx rfl (hb hby d2_215) k) ?_
                        show Goes p e below QQ (TJ37.setTop (mkF m 216 #[rv a1, iv p2, iv p3, iv (x0 &&& (255 : Int32)), iv 4, iv (if (x0 &&& (255 : Int32)) = (240 : Int32) then (144 : Int32) else (128 : Int32)), iv (if (x0 &&& (255 : Int32)) = (244 : Int32) then (143 : Int32) else (191 : Int32)), iv (if p3 < (p2 + (4 : Int32)) then (0 : Int32) else (1 : Int32)), iv 1, iv (x1 &&& (255 : Int32))] [(.int 1)]))
                        refine Goes.on (fun t k => XS.goto XJ37.here hx rfl (pc0 := 216) (pc' := 220) rfl (hb hby d2_216) (by decide) (by decide) k) ?_
                        show Goes p e below QQ (TJ37.setTop (mkF m 220 #[rv a1, iv p2, iv p3, iv (x0 &&& (255 : Int32)), iv 4, iv (if (x0 &&& (255 : Int32)) = (240 : Int32) then (144 : Int32) else (128 : Int32)), iv (if (x0 &&& (255 : Int32)) = (244 : Int32) then (143 : Int32) else (191 : Int32)), iv (if p3 < (p2 + (4 : Int32)) then (0 : Int32) else (1 : Int32)), iv 1, iv (x1 &&& (255 : Int32))] [(.int 1)]))
                        rw [(((if_neg hb52).trans ((if_neg hb53).trans rfl)) : (if (x1 &&& (255 : Int32)) < (if (x0 &&& (255 : Int32)) = (240 : Int32) then (144 : Int32) else (128 : Int32)) then (0 : Int32) else (if (if (x0 &&& (255 : Int32)) = (244 : Int32) then (143 : Int32) else (191 : Int32)) < (x1 &&& (255 : Int32)) then (0 : Int32) else (1 : Int32))) = (1 : Int32))] at J40
                        exact J40 _ _ XJ37 eJ37 NJ37
                show Goes p e below QQ (TJ36.setTop (mkF m 164 #[rv a1, iv p2, iv p3, iv (x0 &&& (255 : Int32)), iv 4, iv (if (x0 &&& (255 : Int32)) = (240 : Int32) then (144 : Int32) else (128 : Int32)), iv (if (x0 &&& (255 : Int32)) = (244 : Int32) then (143 : Int32) else (191 : Int32)), .unset, .unset, .unset] [(.int p3), (.int (p2 + (4 : Int32)))]))
                by_cases hb54 : p3 < (p2 + (4 : Int32))
                · refine Goes.on (fun t k => XS.icmpYes XJ36.here hx rfl (pc0 := 164) (pc' := 171) rfl (hb hby d2_164) rfl (tlt hb54).2.2.1 (by decide) (by decide) k) ?_
                  show Goes p e below QQ (TJ36.setTop (mkF m 171 #[rv a1, iv p2, iv p3, iv (x0 &&& (255 : Int32)), iv 4, iv (if (x0 &&& (255 : Int32)) = (240 : Int32) then (144 : Int32) else (128 : Int32)), iv (if (x0 &&& (255 : Int32)) = (244 : Int32) then (143 : Int32) else (191 : Int32)), .unset, .unset, .unset] []))
                  refine Goes.on (fun t k => XS.iconst XJ36.here hx rfl (hb hby d2_171) k) ?_
                  show Goes p e below QQ (TJ36.setTop (mkF m 172 #[rv a1, iv p2, iv p3, iv (x0 &&& (255 : Int32)), iv 4, iv (if (x0 &&& (255 : Int32)) = (240 : Int32) then (144 : Int32) else (128 : Int32)), iv (if (x0 &&& (255 : Int32)) = (244 : Int32) then (143 : Int32) else (191 : Int32)), .unset, .unset, .unset] [(.int 0)]))
                  rw [(((if_pos hb54).trans rfl) : (if p3 < (p2 + (4 : Int32)) then (0 : Int32) else (1 : Int32)) = (0 : Int32))] at J37
                  exact J37 _ _ XJ36 eJ36 NJ36
                · refine Goes.on (fun t k => XS.icmpNo XJ36.here hx rfl (hb hby d2_164) rfl (flt hb54).2.2.1 k) ?_
                  show Goes p e below QQ (TJ36.setTop (mkF m 167 #[rv a1, iv p2, iv p3, iv (x0 &&& (255 : Int32)), iv 4, iv (if (x0 &&& (255 : Int32)) = (240 : Int32) then (144 : Int32) else (128 : Int32)), iv (if (x0 &&& (255 : Int32)) = (244 : Int32) then (143 : Int32) else (191 : Int32)), .unset, .unset, .unset] []))
                  refine Goes.on (fun t k => XS.iconst XJ36.here hx rfl (hb hby d2_167) k) ?_
                  show Goes p e below QQ (TJ36.setTop (mkF m 168 #[rv a1, iv p2, iv p3, iv (x0 &&& (255 : Int32)), iv 4, iv (if (x0 &&& (255 : Int32)) = (240 : Int32) then (144 : Int32) else (128 : Int32)), iv (if (x0 &&& (255 : Int32)) = (244 : Int32) then (143 : Int32) else (191 : Int32)), .unset, .unset, .unset] [(.int 1)]))
                  refine Goes.on (fun t k => XS.goto XJ36.here hx rfl (pc0 := 168) (pc' := 172) rfl (hb hby d2_168) (by decide) (by decide) k) ?_
                  show Goes p e below QQ (TJ36.setTop (mkF m 172 #[rv a1, iv p2, iv p3, iv (x0 &&& (255 : Int32)), iv 4, iv (if (x0 &&& (255 : Int32)) = (240 : Int32) then (144 : Int32) else (128 : Int32)), iv (if (x0 &&& (255 : Int32)) = (244 : Int32) then (143 : Int32) else (191 : Int32)), .unset, .unset, .unset] [(.int 1)]))
                  rw [(((if_neg hb54).trans rfl) : (if p3 < (p2 + (4 : Int32)) then (0 : Int32) else (1 : Int32)) = (1 : Int32))] at J37
                  exact J37 _ _ XJ36 eJ36 NJ36
              show Goes p e below QQ (TJ35.setTop (mkF m 135 #[rv a1, iv p2, iv p3, iv (x0 &&& (255 : Int32)), iv 4, iv (if (x0 &&& (255 : Int32)) = (240 : Int32) then (144 : Int32) else (128 : Int32)), iv 191, .unset, .unset, .unset] [(.int 244), (.int (x0 &&& (255 : Int32)))]))
              by_cases hb55 : (x0 &&& (255 : Int32)) = (244 : Int32)
              · refine Goes.on (fun t k => XS.icmpNo XJ35.here hx rfl (hb hby d2_135) rfl (teq hb55).2 k) ?_
                show Goes p e below QQ (TJ35.setTop (mkF m 138 #[rv a1, iv p2, iv p3, iv (x0 &&& (255 : Int32)), iv 4, iv (if (x0 &&& (255 : Int32)) = (240 : Int32) then (144 : Int32) else (128 : Int32)), iv 191, .unset, .unset, .unset] []))
                refine Goes.on (fun t k => XS.sipush XJ35.here hx rfl (hb hby d2_138) k) ?_
                show Goes p e below QQ (TJ35.setTop (mkF m 141 #[rv a1, iv p2, iv p3, iv (x0 &&& (255 : Int32)), iv 4, iv (if (x0 &&& (255 : Int32)) = (240 : Int32) then (144 : Int32) else (128 : Int32)), iv 191, .unset, .unset, .unset] [(.int 143)]))
                refine Goes.on (fun t k => XS.goto XJ35.here hx rfl (pc0 := 141) (pc' := 146) rfl (hb hby d2_141) (by decide) (by decide) k) ?_
                show Goes p e below QQ (TJ35.setTop (mkF m 146 #[rv a1, iv p2, iv p3, iv (x0 &&& (255 : Int32)), iv 4, iv (if (x0 &&& (255 : Int32)) = (240 : Int32) then (144 : Int32) else (128 : Int32)), iv 191, .unset, .unset, .unset] [(.int 143)]))
                rw [(((if_pos hb55).trans rfl) : (if (x0 &&& (255 : Int32)) = (244 : Int32) then (143 : Int32) else (191 : Int32)) = (143 : Int32))] at J36
                exact J36 _ _ XJ35 eJ35 NJ35
              · refine Goes.on (fun t k => XS.icmpYes XJ35.here hx rfl (pc0 := 135) (pc' := 144) rfl (hb hby d2_135) rfl (feq hb55).2 (by decide) (by decide) k) ?_
                show Goes p e below QQ (TJ35.setTop (mkF m 144 #[rv a1, iv p2, iv p3, iv (x0 &&& (255 : Int32)), iv 4, iv (if (x0 &&& (255 : Int32)) = (240 : Int32) then (144 : Int32) else (128 : Int32)), iv 191, .unset, .unset, .unset] []))
                refine Goes.on (fun t k => XS.iload XJ35.here hx rfl (hb hby d2_144) rfl k) ?_
                show Goes p e below QQ (TJ35.setTop (mkF m 146 #[rv a1, iv p2, iv p3, iv (x0 &&& (255 : Int32)), iv 4, iv (if (x0 &&& (255 : Int32)) = (240 : Int32) then (144 : Int32) else (128 : Int32)), iv 191, .unset, .unset, .unset] [(.int 191)]))
                rw [(((if_neg hb55).trans rfl) : (if (x0 &&& (255 : Int32)) = (244 : Int32) then (143 : Int32) else (191 : Int32)) = (191 : Int32))] at J36
                exact J36 _ _ XJ35 eJ35 NJ35
            show Goes p e below QQ (s₁.setTop (mkF m 118 #[rv a1, iv p2, iv p3, iv (x0 &&& (255 : Int32)), iv 4, iv 128, iv 191, .unset, .unset, .unset] [(.int 240), (.int (x0 &&& (255 : Int32)))]))
            by_cases hb56 : (x0 &&& (255 : Int32)) = (240 : Int32)
            · refine Goes.on (fun t k => XS.icmpNo X0.here hx rfl (hb hby d2_118) rfl (teq hb56).2 k) ?_
              show Goes p e below QQ (s₁.setTop (mkF m 121 #[rv a1, iv p2, iv p3, iv (x0 &&& (255 : Int32)), iv 4, iv 128, iv 191, .unset, .unset, .unset] []))
              refine Goes.on (fun t k => XS.sipush X0.here hx rfl (hb hby d2_121) k) ?_
              show Goes p e below QQ (s₁.setTop (mkF m 124 #[rv a1, iv p2, iv p3, iv (x0 &&& (255 : Int32)), iv 4, iv 128, iv 191, .unset, .unset, .unset] [(.int 144)]))
              refine Goes.on (fun t k => XS.goto X0.here hx rfl (pc0 := 124) (pc' := 129) rfl (hb hby d2_124) (by decide) (by decide) k) ?_
              show Goes p e below QQ (s₁.setTop (mkF m 129 #[rv a1, iv p2, iv p3, iv (x0 &&& (255 : Int32)), iv 4, iv 128, iv 191, .unset, .unset, .unset] [(.int 144)]))
              rw [(((if_pos hb56).trans rfl) : (if (x0 &&& (255 : Int32)) = (240 : Int32) then (144 : Int32) else (128 : Int32)) = (144 : Int32))] at J35
              exact J35 _ _ X0 e0 N0
            · refine Goes.on (fun t k => XS.icmpYes X0.here hx rfl (pc0 := 118) (pc' := 127) rfl (hb hby d2_118) rfl (feq hb56).2 (by decide) (by decide) k) ?_
              show Goes p e below QQ (s₁.setTop (mkF m 127 #[rv a1, iv p2, iv p3, iv (x0 &&& (255 : Int32)), iv 4, iv 128, iv 191, .unset, .unset, .unset] []))
              refine Goes.on (fun t k => XS.iload X0.here hx rfl (hb hby d2_127) rfl k) ?_
              show Goes p e below QQ (s₁.setTop (mkF m 129 #[rv a1, iv p2, iv p3, iv (x0 &&& (255 : Int32)), iv 4, iv 128, iv 191, .unset, .unset, .unset] [(.int 128)]))
              rw [(((if_neg hb56).trans rfl) : (if (x0 &&& (255 : Int32)) = (240 : Int32) then (144 : Int32) else (128 : Int32)) = (128 : Int32))] at J35
              exact J35 _ _ X0 e0 N0
          · refine Goes.on (fun t k => XS.icmpYes X0.here hx rfl (pc0 := 108) (pc' := 151) rfl (hb hby d2_108) rfl (flt hb34).2.1 (by decide) (by decide) k) ?_
            show Goes p e below QQ (s₁.setTop (mkF m 151 #[rv a1, iv p2, iv p3, iv (x0 &&& (255 : Int32)), .unset, iv 128, iv 191, .unset, .unset, .unset] []))
            refine Goes.on (fun t k => XS.iconst X0.here hx rfl (hb hby d2_151) k) ?_
            show Goes p e below QQ (s₁.setTop (mkF m 152 #[rv a1, iv p2, iv p3, iv (x0 &&& (255 : Int32)), .unset, iv 128, iv 191, .unset, .unset, .unset] [(.int 0)]))
            refine Goes.on (fun t k => XS.istore X0.here hx rfl (hb hby d2_152) rfl (l' := #[rv a1, iv p2, iv p3, iv (x0 &&& (255 : Int32)), iv 0, iv 128, iv 191, .unset, .unset, .unset]) rfl k) ?_
            show Goes p e below QQ (s₁.setTop (mkF m 154 #[rv a1, iv p2, iv p3, iv (x0 &&& (255 : Int32)), iv 0, iv 128, iv 191, .unset, .unset, .unset] []))
            refine Goes.on (fun t k => XS.iload X0.here hx rfl (hb hby d2_154) rfl k) ?_
            show Goes p e below QQ (s₁.setTop (mkF m 156 #[rv a1, iv p2, iv p3, iv (x0 &&& (255 : Int32)), iv 0, iv 128, iv 191, .unset, .unset, .unset] [(.int 0)]))
            refine Goes.on (fun t k => XS.ifYes X0.here hx rfl (pc0 := 156) (pc' := 171) rfl (hb hby d2_156) rfl ((if0 _ _).trans (flt (by decide)).2.2.2) (by decide) (by decide) k) ?_
            show Goes p e below QQ (s₁.setTop (mkF m 171 #[rv a1, iv p2, iv p3, iv (x0 &&& (255 : Int32)), iv 0, iv 128, iv 191, .unset, .unset, .unset] []))
            refine Goes.on (fun t k => XS.iconst X0.here hx rfl (hb hby d2_171) k) ?_
            show Goes p e below QQ (s₁.setTop (mkF m 172 #[rv a1, iv p2, iv p3, iv (x0 &&& (255 : Int32)), iv 0, iv 128, iv 191, .unset, .unset, .unset] [(.int 0)]))
            refine Goes.on (fun t k => XS.istore X0.here hx rfl (hb hby d2_172) rfl (l' := #[rv a1, iv p2, iv p3, iv (x0 &&& (255 : Int32)), iv 0, iv 128, iv 191, iv 0, .unset, .unset]) rfl k) ?_
            show Goes p e below QQ (s₁.setTop (mkF m 174 #[rv a1, iv p2, iv p3, iv (x0 &&& (255 : Int32)), iv 0, iv 128, iv 191, iv 0, .unset, .unset] []))
            refine Goes.on (fun t k => XS.iconst X0.here hx rfl (hb hby d2_174) k) ?_
            show Goes p e below QQ (s₁.setTop (mkF m 175 #[rv a1, iv p2, iv p3, iv (x0 &&& (255 : Int32)), iv 0, iv 128, iv 191, iv 0, .unset, .unset] [(.int 1)]))
            refine Goes.on (fun t k => XS.istore X0.here hx rfl (hb hby d2_175) rfl (l' := #[rv a1, iv p2, iv p3, iv (x0 &&& (255 : Int32)), iv 0, iv 128, iv 191, iv 0, iv 1, .unset]) rfl k) ?_
            show Goes p e below QQ (s₁.setTop (mkF m 177 #[rv a1, iv p2, iv p3, iv (x0 &&& (255 : Int32)), iv 0, iv 128, iv 191, iv 0, iv 1, .unset] []))
            refine Goes.on (fun t k => XS.iload X0.here hx rfl (hb hby d2_177) rfl k) ?_
            show Goes p e below QQ (s₁.setTop (mkF m 179 #[rv a1, iv p2, iv p3, iv (x0 &&& (255 : Int32)), iv 0, iv 128, iv 191, iv 0, iv 1, .unset] [(.int 0)]))
            refine Goes.on (fun t k => XS.ifYes X0.here hx rfl (pc0 := 179) (pc' := 238) rfl (hb hby d2_179) rfl ((if0 _ _).trans (teq (by decide)).1) (by decide) (by decide) k) ?_
            show Goes p e below QQ (s₁.setTop (mkF m 238 #[rv a1, iv p2, iv p3, iv (x0 &&& (255 : Int32)), iv 0, iv 128, iv 191, iv 0, iv 1, .unset] []))
            refine Goes.on (fun t k => XS.iload X0.here hx rfl (hb hby d2_238) rfl k) ?_
            show Goes p e below QQ (s₁.setTop (mkF m 240 #[rv a1, iv p2, iv p3, iv (x0 &&& (255 : Int32)), iv 0, iv 128, iv 191, iv 0, iv 1, .unset] [(.int 0)]))
            refine Goes.on (fun t k => XS.ifYes X0.here hx rfl (pc0 := 240) (pc' := 248) rfl (hb hby d2_240) rfl ((if0 _ _).trans (teq (by decide)).1) (by decide) (by decide) k) ?_
            show Goes p e below QQ (s₁.setTop (mkF m 248 #[rv a1, iv p2, iv p3, iv (x0 &&& (255 : Int32)), iv 0, iv 128, iv 191, iv 0, iv 1, .unset] []))
            refine Goes.on (fun t k => XS.iconst X0.here hx rfl (hb hby d2_248) k) ?_
            show Goes p e below QQ (s₁.setTop (mkF m 249 #[rv a1, iv p2, iv p3, iv (x0 &&& (255 : Int32)), iv 0, iv 128, iv 191, iv 0, iv 1, .unset] [(.int 0)]))
            exact Goes.rI X0 hx hret hlk (hb hby d2_249) hQQ ⟨congrArg (fun z => some (Value.int z)) (((if_neg hb2).trans ((if_neg hb6).trans ((if_neg hb7).trans ((if_neg hb16).trans ((if_neg hb34).trans rfl))))) : (seqF p2 p3 x0 x1 x2 x3) = (0 : Int32)).symm, N0, e0⟩ (by decide) (by decide)
theorem pn_0 : plainFor x = true := plainFor_of_name (show plainName "com/example/sober_links/soberlinks/io/Utf8SequenceLengthPinLaw" = true by first | (simp [plainName, overriddenIn]; done) | decide +kernel)
theorem ef_rm0 (m : MethodId) (x0 : Int32) (x1 : Int32) (x2 : Int32) (x3 : Int32) (x4 : Int32) (x5 : Int32) : entryFrame m #[(.int x0), (.int x1), (.int x2), (.int x3), (.int x4), (.int x5)] maxLocals = mkF m 0 #[iv x0, iv x1, iv x2, iv x3, iv x4, iv x5, .unset, .unset, .unset, .unset, .unset] [] := by first | (simp [entryFrame, mkF, argsToLocals, Value.category, maxLocals]; done) | rfl
theorem pd_1 : parseMethodDescriptor "(IIIII)I" = some ⟨[.int, .int, .int, .int, .int], some .int⟩ := by decide +kernel
theorem pd_2 : parseMethodDescriptor "([BII)I" = some ⟨[(.array .byte), .int, .int], some .int⟩ := by decide +kernel
theorem own_bit (x1 : Int32) (h : ¬ (x1 &&& (1 : Int32)) = (0 : Int32)) : (x1 &&& (1 : Int32)) = (1 : Int32) := by
  have q := c_mask x1 1 1 (by decide) (by decide)
  have e0 : (0 : Int32).toInt = 0 := by decide
  have e1 : (1 : Int32).toInt = 1 := by decide
  apply Int32.toInt_inj.mp
  have h' : ¬ (x1 &&& (1 : Int32)).toInt = 0 := fun z => h (Int32.toInt_inj.mp (z.trans e0.symm))
  omega
def lawF (p1 p2 p3 p4 p5 p6 : Int32) : Int32 := (if (p5 &&& (1 : Int32)) = (0 : Int32) then (if (seqF (0 : Int32) ((0 : Int32) + (((p6 &&& (2147483647 : Int32)) % (6 : Int32)) - (1 : Int32))) p1.toInt8.toInt32.toInt8.toInt32 p2.toInt8.toInt32.toInt8.toInt32 p3.toInt8.toInt32.toInt8.toInt32 p4.toInt8.toInt32.toInt8.toInt32) = (expF (p1 &&& (255 : Int32)) (p2 &&& (255 : Int32)) (p3 &&& (255 : Int32)) (p4 &&& (255 : Int32)) (((p6 &&& (2147483647 : Int32)) % (6 : Int32)) - (1 : Int32))) then (1 : Int32) else (0 : Int32)) else (if (seqF (1 : Int32) ((1 : Int32) + (((p6 &&& (2147483647 : Int32)) % (6 : Int32)) - (1 : Int32))) p1.toInt8.toInt32.toInt8.toInt32 p2.toInt8.toInt32.toInt8.toInt32 p3.toInt8.toInt32.toInt8.toInt32 p4.toInt8.toInt32.toInt8.toInt32) = (expF (p1 &&& (255 : Int32)) (p2 &&& (255 : Int32)) (p3 &&& (255 : Int32)) (p4 &&& (255 : Int32)) (((p6 &&& (2147483647 : Int32)) % (6 : Int32)) - (1 : Int32))) then (1 : Int32) else (0 : Int32)))
theorem own_byteEq (y : Int32) : (y.toInt8.toInt32.toInt8.toInt32 &&& (255 : Int32)) = (y &&& (255 : Int32)) := by
  have q := c_mask y.toInt8.toInt32.toInt8.toInt32 255 8 (by decide) (by decide)
  have r := c_mask y 255 8 (by decide) (by decide)
  have a1 := c_i2b y
  have a2 := c_i2b y.toInt8.toInt32
  apply Int32.toInt_inj.mp
  omega
/-- a byte's worth -/
def Byt (y : Int32) : Prop := 0 ≤ y.toInt ∧ y.toInt < 256
theorem own_isByt (y : Int32) : Byt (y &&& (255 : Int32)) := by
  have r := c_mask y 255 8 (by decide) (by decide)
  unfold Byt
  omega
theorem own_bytOf {y : Int32} (h : Byt y) : ∃ n : Fin 256, y = Int32.ofNat n.val := by
  refine ⟨⟨y.toInt.toNat, by unfold Byt at h; omega⟩, ?_⟩
  apply Int32.toInt_inj.mp
  rw [Int32.toInt_ofNat_small (by unfold Byt at h; show y.toInt.toNat < 2 ^ 31; omega)]
  unfold Byt at h
  show y.toInt = ((y.toInt.toNat : Nat) : Int)
  omega
theorem own_m1 {y : Int32} (h : Byt y) : ((y &&& (224 : Int32)) = (192 : Int32)) ↔ (192 ≤ y.toInt ∧ y.toInt < 224) := by
  obtain ⟨n, rfl⟩ := own_bytOf h
  clear h
  revert n
  decide +kernel
theorem own_m2 {y : Int32} (h : Byt y) : ((y &&& (240 : Int32)) = (224 : Int32)) ↔ (224 ≤ y.toInt ∧ y.toInt < 240) := by
  obtain ⟨n, rfl⟩ := own_bytOf h
  clear h
  revert n
  decide +kernel
theorem own_m3 {y : Int32} (h : Byt y) : ((y &&& (248 : Int32)) = (240 : Int32)) ↔ (240 ≤ y.toInt ∧ y.toInt < 248) := by
  obtain ⟨n, rfl⟩ := own_bytOf h
  clear h
  revert n
  decide +kernel
theorem own_m4 {y : Int32} (h : Byt y) : ((y &&& (192 : Int32)) = (128 : Int32)) ↔ (128 ≤ y.toInt ∧ y.toInt < 192) := by
  obtain ⟨n, rfl⟩ := own_bytOf h
  clear h
  revert n
  decide +kernel
theorem own_cont {y : Int32} (h : Byt y) : contF y = (0 : Int32) ↔ ¬ (128 ≤ y.toInt ∧ y.toInt < 192) := by
  rw [← own_m4 h]
  unfold contF
  by_cases c : (y &&& (192 : Int32)) = (128 : Int32)
  · rw [if_pos c]; exact ⟨fun z => absurd z (by decide), fun z => absurd c z⟩
  · rw [if_neg c]; exact ⟨fun _ => c, fun _ => rfl⟩
theorem own_if0 {c : Prop} [Decidable c] : ((if c then (0 : Int32) else (1 : Int32)) = (0 : Int32)) ↔ c := by
  by_cases h : c
  · rw [if_pos h]; exact ⟨fun _ => h, fun _ => rfl⟩
  · rw [if_neg h]; exact ⟨fun z => absurd z (by decide), fun z => absurd z h⟩
theorem own_if1 {c : Prop} [Decidable c] : ((if c then (1 : Int32) else (0 : Int32)) = (0 : Int32)) ↔ ¬ c := by
  by_cases h : c
  · rw [if_pos h]; exact ⟨fun z => absurd z (by decide), fun z => absurd h z⟩
  · rw [if_neg h]; exact ⟨fun _ => h, fun _ => rfl⟩
theorem own_ifo {c : Prop} [Decidable c] {y : Int32} : ((if c then (0 : Int32) else y) = (0 : Int32)) ↔ (c ∨ y = (0 : Int32)) := by
  by_cases h : c
  · rw [if_pos h]; exact ⟨fun _ => Or.inl h, fun _ => rfl⟩
  · rw [if_neg h]; exact ⟨fun z => Or.inr z, fun z => z.elim (fun q => absurd q h) id⟩
theorem own_ifp {c : Prop} [Decidable c] {y : Int32} : ((if c then (1 : Int32) else y) = (0 : Int32)) ↔ (¬ c ∧ y = (0 : Int32)) := by
  by_cases h : c
  · rw [if_pos h]; exact ⟨fun z => absurd z (by decide), fun z => absurd h z.1⟩
  · rw [if_neg h]; exact ⟨fun z => ⟨h, z⟩, fun z => z.2⟩
theorem own_10 : ((1 : Int32) = (0 : Int32)) ↔ False := ⟨fun z => absurd z (by decide), False.elim⟩
theorem own_00 : ((0 : Int32) = (0 : Int32)) ↔ True := ⟨fun _ => trivial, fun _ => rfl⟩
theorem own_or (u w : Int32) (k : Nat) (P : Int) (hk : k ≤ 31) (hP : P = (2 ^ k : Nat)) (h1 : u.toInt % P = 0) (h2 : 0 ≤ w.toInt) (h3 : w.toInt < P) (h4 : 0 ≤ u.toInt) (h5 : u.toInt + w.toInt < 2147483648) : (u ||| w).toInt = u.toInt + w.toInt := by
  have q := c_or u w k hk P hP h1 h2 h3
  have r := rng32 (u ||| w)
  omega
theorem own_cp2 {y0 y1 : Int32} (h0 : Byt y0) (h1 : Byt y1) : (((y0 &&& (31 : Int32)) <<< ((6 : Int32) &&& 31)) ||| (y1 &&& (63 : Int32))).toInt = y0.toInt % 32 * 64 + y1.toInt % 64 := by
  have a := c_mask y0 31 5 (by decide) (by decide)
  have b := c_mask y1 63 6 (by decide) (by decide)
  have c := c_ishl (y0 &&& (31 : Int32)) 6 6 (by decide)
  have d := rng32 ((y0 &&& (31 : Int32)) <<< ((6 : Int32) &&& 31))
  have e := own_or ((y0 &&& (31 : Int32)) <<< ((6 : Int32) &&& 31)) (y1 &&& (63 : Int32)) 6 64 (by decide) rfl (by omega) (by omega) (by omega) (by omega) (by omega)
  omega
theorem own_cp3 {y0 y1 y2 : Int32} (h0 : Byt y0) (h1 : Byt y1) (h2 : Byt y2) : ((((y0 &&& (15 : Int32)) <<< ((12 : Int32) &&& 31)) ||| ((y1 &&& (63 : Int32)) <<< ((6 : Int32) &&& 31))) ||| (y2 &&& (63 : Int32))).toInt = y0.toInt % 16 * 4096 + y1.toInt % 64 * 64 + y2.toInt % 64 := by
  have a := c_mask y0 15 4 (by decide) (by decide)
  have b := c_mask y1 63 6 (by decide) (by decide)
  have b2 := c_mask y2 63 6 (by decide) (by decide)
  have c := c_ishl (y0 &&& (15 : Int32)) 12 12 (by decide)
  have c2 := c_ishl (y1 &&& (63 : Int32)) 6 6 (by decide)
  have d := rng32 ((y0 &&& (15 : Int32)) <<< ((12 : Int32) &&& 31))
  have d2 := rng32 ((y1 &&& (63 : Int32)) <<< ((6 : Int32) &&& 31))
  have e := own_or ((y0 &&& (15 : Int32)) <<< ((12 : Int32) &&& 31)) ((y1 &&& (63 : Int32)) <<< ((6 : Int32) &&& 31)) 12 4096 (by decide) rfl (by omega) (by omega) (by omega) (by omega) (by omega)
  have e2 := own_or (((y0 &&& (15 : Int32)) <<< ((12 : Int32) &&& 31)) ||| ((y1 &&& (63 : Int32)) <<< ((6 : Int32) &&& 31))) (y2 &&& (63 : Int32)) 6 64 (by decide) rfl (by omega) (by omega) (by omega) (by omega) (by omega)
  omega
theorem own_cp4 {y0 y1 y2 y3 : Int32} (h0 : Byt y0) (h1 : Byt y1) (h2 : Byt y2) (h3 : Byt y3) : (((((y0 &&& (7 : Int32)) <<< ((18 : Int32) &&& 31)) ||| ((y1 &&& (63 : Int32)) <<< ((12 : Int32) &&& 31))) ||| ((y2 &&& (63 : Int32)) <<< ((6 : Int32) &&& 31))) ||| (y3 &&& (63 : Int32))).toInt = y0.toInt % 8 * 262144 + y1.toInt % 64 * 4096 + y2.toInt % 64 * 64 + y3.toInt % 64 := by
  have a := c_mask y0 7 3 (by decide) (by decide)
  have b := c_mask y1 63 6 (by decide) (by decide)
  have b2 := c_mask y2 63 6 (by decide) (by decide)
  have b3 := c_mask y3 63 6 (by decide) (by decide)
  have c := c_ishl (y0 &&& (7 : Int32)) 18 18 (by decide)
  have c1 := c_ishl (y1 &&& (63 : Int32)) 12 12 (by decide)
  have c2 := c_ishl (y2 &&& (63 : Int32)) 6 6 (by decide)
  have d := rng32 ((y0 &&& (7 : Int32)) <<< ((18 : Int32) &&& 31))
  have d1 := rng32 ((y1 &&& (63 : Int32)) <<< ((12 : Int32) &&& 31))
  have d2 := rng32 ((y2 &&& (63 : Int32)) <<< ((6 : Int32) &&& 31))
  have e := own_or ((y0 &&& (7 : Int32)) <<< ((18 : Int32) &&& 31)) ((y1 &&& (63 : Int32)) <<< ((12 : Int32) &&& 31)) 18 262144 (by decide) rfl (by omega) (by omega) (by omega) (by omega) (by omega)
  have e1 := own_or (((y0 &&& (7 : Int32)) <<< ((18 : Int32) &&& 31)) ||| ((y1 &&& (63 : Int32)) <<< ((12 : Int32) &&& 31))) ((y2 &&& (63 : Int32)) <<< ((6 : Int32) &&& 31)) 12 4096 (by decide) rfl (by omega) (by omega) (by omega) (by omega) (by omega)
  have e2 := own_or ((((y0 &&& (7 : Int32)) <<< ((18 : Int32) &&& 31)) ||| ((y1 &&& (63 : Int32)) <<< ((12 : Int32) &&& 31))) ||| ((y2 &&& (63 : Int32)) <<< ((6 : Int32) &&& 31))) (y3 &&& (63 : Int32)) 6 64 (by decide) rfl (by omega) (by omega) (by omega) (by omega) (by omega)
  omega
theorem own_av (at' av n : Int32) (hat : at' = (0 : Int32) ∨ at' = (1 : Int32)) (hav : -1 ≤ av.toInt ∧ av.toInt ≤ 4) (hn : 0 ≤ n.toInt ∧ n.toInt ≤ 4) : ((at' + av) < (at' + n)) ↔ av.toInt < n.toInt := by
  have q1 := c_iadd at' av
  have q2 := c_iadd at' n
  have r1 := rng32 (at' + av)
  have r2 := rng32 (at' + n)
  have f : 0 ≤ at'.toInt ∧ at'.toInt ≤ 1 := by rcases hat with rfl | rfl <;> decide
  rw [Int32.lt_iff_toInt_lt]
  omega
theorem own_eqI (y z : Int32) : (y = z) ↔ y.toInt = z.toInt := Int32.toInt_inj.symm
set_option maxHeartbeats 40000000 in
theorem own_seqexp (at' av p1 p2 p3 p4 : Int32) (hat : at' = (0 : Int32) ∨ at' = (1 : Int32)) (hav : -1 ≤ av.toInt ∧ av.toInt ≤ 4) : seqF at' (at' + av) p1.toInt8.toInt32.toInt8.toInt32 p2.toInt8.toInt32.toInt8.toInt32 p3.toInt8.toInt32.toInt8.toInt32 p4.toInt8.toInt32.toInt8.toInt32 = expF (p1 &&& (255 : Int32)) (p2 &&& (255 : Int32)) (p3 &&& (255 : Int32)) (p4 &&& (255 : Int32)) av := by
  have a1 := own_av at' av 1 hat hav (by decide)
  have a2 := own_av at' av 2 hat hav (by decide)
  have a3 := own_av at' av 3 hat hav (by decide)
  have a4 := own_av at' av 4 hat hav (by decide)
  have h0 := own_isByt p1
  have h1 := own_isByt p2
  have h2 := own_isByt p3
  have h3 := own_isByt p4
  unfold seqF expF
  simp only [own_byteEq]
  generalize (p1 &&& (255 : Int32)) = B0 at *
  generalize (p2 &&& (255 : Int32)) = B1 at *
  generalize (p3 &&& (255 : Int32)) = B2 at *
  generalize (p4 &&& (255 : Int32)) = B3 at *
  simp only [a1, a2, a3, a4, own_m1 h0, own_m2 h0, own_m3 h0, own_cont h1, own_cont h2, own_cont h3, own_eqI B0 224, own_eqI B0 237, own_eqI B0 240, own_eqI B0 244]
  simp only [own_if0, own_ifo, own_ifp, own_10, own_00, or_false, and_true]
  have l1 : (1 : Int32).toInt = 1 := by decide
  have l2 : (2 : Int32).toInt = 2 := by decide
  have l3 : (3 : Int32).toInt = 3 := by decide
  have l4 : (4 : Int32).toInt = 4 := by decide
  have l5 : (128 : Int32).toInt = 128 := by decide
  have l6 : (194 : Int32).toInt = 194 := by decide
  have l7 : (224 : Int32).toInt = 224 := by decide
  have l8 : (240 : Int32).toInt = 240 := by decide
  have l9 : (245 : Int32).toInt = 245 := by decide
  have m1 : (191 : Int32).toInt = 191 := by decide
  have m2 : (160 : Int32).toInt = 160 := by decide
  have m3 : (159 : Int32).toInt = 159 := by decide
  have m4 : (144 : Int32).toInt = 144 := by decide
  have m5 : (143 : Int32).toInt = 143 := by decide
  have m6 : (2048 : Int32).toInt = 2048 := by decide
  have m7 : (65536 : Int32).toInt = 65536 := by decide
  have m8 : (1114111 : Int32).toInt = 1114111 := by decide
  have m9 : (55296 : Int32).toInt = 55296 := by decide
  have n1 : (57343 : Int32).toInt = 57343 := by decide
  have n2 : (237 : Int32).toInt = 237 := by decide
  have n3 : (244 : Int32).toInt = 244 := by decide
  simp only [Int32.lt_iff_toInt_lt, apply_ite Int32.toInt, own_cp2 h0 h1, own_cp3 h0 h1 h2, own_cp4 h0 h1 h2 h3, l1, l2, l3, l4, l5, l6, l7, l8, l9, m1, m2, m3, m4, m5, m6, m7, m8, m9, n1, n2, n3]
  unfold Byt at h0 h1 h2 h3
  clear a1 a2 a3 a4 l1 l2 l3 l4 l5 l6 l7 l8 l9 m1 m2 m3 m4 m5 m6 m7 m8 m9 n1 n2 n3
  generalize B0.toInt = b0 at *
  generalize B1.toInt = b1 at *
  generalize B2.toInt = b2 at *
  generalize B3.toInt = b3 at *
  generalize av.toInt = v at *
  by_cases c1 : b0 < 128
  · simp only [c1, if_true]
  · by_cases c2 : b0 < 194
    · have d1 : ¬ 224 ≤ b0 := by omega
      have d2 : ¬ 240 ≤ b0 := by omega
      have d3 : b0 < 224 := by omega
      simp only [c1, c2, d1, d2, d3, and_true, and_false, false_and, if_true, if_false]
      repeat' split
      all_goals first | rfl | (exfalso; omega)
    · by_cases c3 : b0 < 224
      · have d1 : 192 ≤ b0 := by omega
        simp only [c1, c2, c3, d1, and_true, if_true, if_false]
        repeat' split
        all_goals first | rfl | (exfalso; omega)
      · have d1 : 224 ≤ b0 := by omega
        by_cases c4 : b0 < 240
        · simp only [c1, c2, c3, c4, d1, and_true, and_false, true_and, if_true, if_false]
          by_cases e1 : b0 = 224
          · subst e1
            simp only [if_true, (by decide : ¬ ((224 : Int) = 237)), if_false]
            repeat' split
            all_goals first | rfl | (exfalso; omega)
          · by_cases e2 : b0 = 237
            · subst e2
              simp only [if_true, (by decide : ¬ ((237 : Int) = 224)), if_false]
              repeat' split
              all_goals first | rfl | (exfalso; omega)
            · simp only [e1, e2, if_false]
              repeat' split
              all_goals first | rfl | (exfalso; omega)
        · have d2 : 240 ≤ b0 := by omega
          by_cases c5 : b0 < 245
          · have d3 : b0 < 248 := by omega
            simp only [c1, c2, c3, c4, c5, d1, d2, d3, and_true, and_false, true_and, if_true, if_false]
            by_cases e1 : b0 = 240
            · subst e1
              simp only [if_true, (by decide : ¬ ((240 : Int) = 244)), if_false]
              repeat' split
              all_goals first | rfl | (exfalso; omega)
            · by_cases e2 : b0 = 244
              · subst e2
                simp only [if_true, (by decide : ¬ ((244 : Int) = 240)), if_false]
                repeat' split
                all_goals first | rfl | (exfalso; omega)
              · simp only [e1, e2, if_false]
                repeat' split
                all_goals first | rfl | (exfalso; omega)
          · simp only [c1, c2, c3, c4, c5, d1, d2, and_true, and_false, true_and, if_true, if_false]
            repeat' split
            all_goals first | rfl | (exfalso; omega)
theorem lawT (p1 p2 p3 p4 p5 p6 : Int32) : lawF p1 p2 p3 p4 p5 p6 = 1 := by
  have m := c_mask p6 2147483647 31 (by decide) (by decide)
  have r := (c_irem (p6 &&& (2147483647 : Int32)) 6 6 (by decide)).1 (by omega)
  have s := c_isub ((p6 &&& (2147483647 : Int32)) % (6 : Int32)) (1 : Int32)
  have z := rng32 (((p6 &&& (2147483647 : Int32)) % (6 : Int32)) - (1 : Int32))
  rw [(by decide : (1 : Int32).toInt = 1)] at s
  have hav : -1 ≤ (((p6 &&& (2147483647 : Int32)) % (6 : Int32)) - (1 : Int32)).toInt ∧ (((p6 &&& (2147483647 : Int32)) % (6 : Int32)) - (1 : Int32)).toInt ≤ 4 := by omega
  unfold lawF
  rw [if_pos (own_seqexp 0 _ p1 p2 p3 p4 (Or.inl rfl) hav), if_pos (own_seqexp 1 _ p1 p2 p3 p4 (Or.inr rfl) hav), ite_self]
set_option maxRecDepth 65536 in
set_option maxHeartbeats 40000000 in
theorem rm0 (l : Launch) (Z : State) (a0 : Array Value) (hw : ∀ d ∈ tables_1, d.before a0 Z = true) (ws : List Jvm.Cond) (p1 p2 p3 p4 p5 p6 : Int32) (h0 : Heap) (n0 : Nat) (Z0 : n0 ≤ h0.size)  :
    MetFree l x (head1 (Jvm.Cond.code x code maxLocals ret :: ws) room_1) (fun a U => a = #[(.int p1), (.int p2), (.int p3), (.int p4), (.int p5), (.int p6)] ∧ Z.Warmed39 U.vm ∧ U.heap = h0) (fun _ _ _ _ _ => True) (fun _ U o U' => ∃ v L, o = .returned v ∧ QL n0 v U'.heap L ∧ FrameEnd U o U' L 16 128) := by
  refine own_enter pn_0 ?_
  intro p e s m below meth c s₁ QQ hQQ hx hby hml hown hnm hret hlk hZ X0 e0
  have hown : s.vm.findClass "com/example/sober_links/soberlinks/io/Utf8SequenceLengthPinLaw" = some m.cls := hown
  have hml : c.maxLocals = 11 := hml
  have hret : meth.sig.returnType = some .boolean := hret
  have N0 := Fr.nil n0
  have K0 := Keep.refl h0 []
  refine Goes.cast (ef_rm0 m p1 p2 p3 p4 p5 p6) ?_
  show Goes p e below QQ (s₁.setTop (mkF m 0 #[iv p1, iv p2, iv p3, iv p4, iv p5, iv p6, .unset, .unset, .unset, .unset, .unset] []))
  refine Goes.on (fun t k => XS.iload X0.here hx rfl (hb hby at_0) rfl k) ?_
  show Goes p e below QQ (s₁.setTop (mkF m 2 #[iv p1, iv p2, iv p3, iv p4, iv p5, iv p6, .unset, .unset, .unset, .unset, .unset] [(.int p5)]))
  refine Goes.on (fun t k => XS.iconst X0.here hx rfl (hb hby at_2) k) ?_
  show Goes p e below QQ (s₁.setTop (mkF m 3 #[iv p1, iv p2, iv p3, iv p4, iv p5, iv p6, .unset, .unset, .unset, .unset, .unset] [(.int 1), (.int p5)]))
  refine Goes.on (fun t k => XS.iand X0.here hx rfl (hb hby at_3) rfl k) ?_
  show Goes p e below QQ (s₁.setTop (mkF m 4 #[iv p1, iv p2, iv p3, iv p4, iv p5, iv p6, .unset, .unset, .unset, .unset, .unset] [(.int (p5 &&& (1 : Int32)))]))
  refine Goes.on (fun t k => XS.istore X0.here hx rfl (hb hby at_4) rfl (l' := #[iv p1, iv p2, iv p3, iv p4, iv p5, iv p6, iv (p5 &&& (1 : Int32)), .unset, .unset, .unset, .unset]) rfl k) ?_
  show Goes p e below QQ (s₁.setTop (mkF m 6 #[iv p1, iv p2, iv p3, iv p4, iv p5, iv p6, iv (p5 &&& (1 : Int32)), .unset, .unset, .unset, .unset] []))
  by_cases hst : (p5 &&& (1 : Int32)) = (0 : Int32)
  · rw [hst]
    show Goes p e below QQ (s₁.setTop (mkF m 6 #[iv p1, iv p2, iv p3, iv p4, iv p5, iv p6, iv 0, .unset, .unset, .unset, .unset] []))
    refine Goes.on (fun t k => XS.iload X0.here hx rfl (hb hby at_6) rfl k) ?_
    show Goes p e below QQ (s₁.setTop (mkF m 8 #[iv p1, iv p2, iv p3, iv p4, iv p5, iv p6, iv 0, .unset, .unset, .unset, .unset] [(.int p6)]))
    refine Goes.on (fun t k => X0.ldcInt hx hown (mvT hZ (hw _ (List.mem_of_getElem? (i := 0) rfl))) (g := (mkF m 8 #[iv p1, iv p2, iv p3, iv p4, iv p5, iv p6, iv 0, .unset, .unset, .unset, .unset] [(.int p6)])) rfl (hb hby at_8) t k) ?_
    show Goes p e below QQ (s₁.setTop (mkF m 10 #[iv p1, iv p2, iv p3, iv p4, iv p5, iv p6, iv 0, .unset, .unset, .unset, .unset] [(.int 2147483647), (.int p6)]))
    refine Goes.on (fun t k => XS.iand X0.here hx rfl (hb hby at_10) rfl k) ?_
    show Goes p e below QQ (s₁.setTop (mkF m 11 #[iv p1, iv p2, iv p3, iv p4, iv p5, iv p6, iv 0, .unset, .unset, .unset, .unset] [(.int (p6 &&& (2147483647 : Int32)))]))
    refine Goes.on (fun t k => XS.bipush X0.here hx rfl (hb hby at_11) k) ?_
    show Goes p e below QQ (s₁.setTop (mkF m 13 #[iv p1, iv p2, iv p3, iv p4, iv p5, iv p6, iv 0, .unset, .unset, .unset, .unset] [(.int 6), (.int (p6 &&& (2147483647 : Int32)))]))
    refine Goes.on (fun t k => iremM X0 hx rfl (hb hby at_13) rfl (by decide) k) ?_
    show Goes p e below QQ (s₁.setTop (mkF m 14 #[iv p1, iv p2, iv p3, iv p4, iv p5, iv p6, iv 0, .unset, .unset, .unset, .unset] [(.int ((p6 &&& (2147483647 : Int32)) % (6 : Int32)))]))
    refine Goes.on (fun t k => XS.iconst X0.here hx rfl (hb hby at_14) k) ?_
    show Goes p e below QQ (s₁.setTop (mkF m 15 #[iv p1, iv p2, iv p3, iv p4, iv p5, iv p6, iv 0, .unset, .unset, .unset, .unset] [(.int 1), (.int ((p6 &&& (2147483647 : Int32)) % (6 : Int32)))]))
    refine Goes.on (fun t k => XS.isub X0.here hx rfl (hb hby at_15) rfl k) ?_
    show Goes p e below QQ (s₁.setTop (mkF m 16 #[iv p1, iv p2, iv p3, iv p4, iv p5, iv p6, iv 0, .unset, .unset, .unset, .unset] [(.int (((p6 &&& (2147483647 : Int32)) % (6 : Int32)) - (1 : Int32)))]))
    refine Goes.on (fun t k => XS.istore X0.here hx rfl (hb hby at_16) rfl (l' := #[iv p1, iv p2, iv p3, iv p4, iv p5, iv p6, iv 0, iv (((p6 &&& (2147483647 : Int32)) % (6 : Int32)) - (1 : Int32)), .unset, .unset, .unset]) rfl k) ?_
    show Goes p e below QQ (s₁.setTop (mkF m 18 #[iv p1, iv p2, iv p3, iv p4, iv p5, iv p6, iv 0, iv (((p6 &&& (2147483647 : Int32)) % (6 : Int32)) - (1 : Int32)), .unset, .unset, .unset] []))
    refine Goes.on (fun t k => XS.iload X0.here hx rfl (hb hby at_18) rfl k) ?_
    show Goes p e below QQ (s₁.setTop (mkF m 20 #[iv p1, iv p2, iv p3, iv p4, iv p5, iv p6, iv 0, iv (((p6 &&& (2147483647 : Int32)) % (6 : Int32)) - (1 : Int32)), .unset, .unset, .unset] [(.int 0)]))
    refine Goes.on (fun t k => XS.iload X0.here hx rfl (hb hby at_20) rfl k) ?_
    show Goes p e below QQ (s₁.setTop (mkF m 22 #[iv p1, iv p2, iv p3, iv p4, iv p5, iv p6, iv 0, iv (((p6 &&& (2147483647 : Int32)) % (6 : Int32)) - (1 : Int32)), .unset, .unset, .unset] [(.int (((p6 &&& (2147483647 : Int32)) % (6 : Int32)) - (1 : Int32))), (.int 0)]))
    refine Goes.on (fun t k => XS.iadd X0.here hx rfl (hb hby at_22) rfl k) ?_
    show Goes p e below QQ (s₁.setTop (mkF m 23 #[iv p1, iv p2, iv p3, iv p4, iv p5, iv p6, iv 0, iv (((p6 &&& (2147483647 : Int32)) % (6 : Int32)) - (1 : Int32)), .unset, .unset, .unset] [(.int ((0 : Int32) + (((p6 &&& (2147483647 : Int32)) % (6 : Int32)) - (1 : Int32))))]))
    refine Goes.on (fun t k => XS.istore X0.here hx rfl (hb hby at_23) rfl (l' := #[iv p1, iv p2, iv p3, iv p4, iv p5, iv p6, iv 0, iv (((p6 &&& (2147483647 : Int32)) % (6 : Int32)) - (1 : Int32)), iv ((0 : Int32) + (((p6 &&& (2147483647 : Int32)) % (6 : Int32)) - (1 : Int32))), .unset, .unset]) rfl k) ?_
    show Goes p e below QQ (s₁.setTop (mkF m 25 #[iv p1, iv p2, iv p3, iv p4, iv p5, iv p6, iv 0, iv (((p6 &&& (2147483647 : Int32)) % (6 : Int32)) - (1 : Int32)), iv ((0 : Int32) + (((p6 &&& (2147483647 : Int32)) % (6 : Int32)) - (1 : Int32))), .unset, .unset] []))
    refine Goes.on (fun t k => XS.bipush X0.here hx rfl (hb hby at_25) k) ?_
    show Goes p e below QQ (s₁.setTop (mkF m 27 #[iv p1, iv p2, iv p3, iv p4, iv p5, iv p6, iv 0, iv (((p6 &&& (2147483647 : Int32)) % (6 : Int32)) - (1 : Int32)), iv ((0 : Int32) + (((p6 &&& (2147483647 : Int32)) % (6 : Int32)) - (1 : Int32))), .unset, .unset] [(.int 6)]))
    obtain ⟨T1, h1, k1, X1, e1, E1, A1, st1⟩ := newP X0 hx hZ (hw _ (List.mem_of_getElem? (i := 1) rfl)) e0 (g := (mkF m 27 #[iv p1, iv p2, iv p3, iv p4, iv p5, iv p6, iv 0, iv (((p6 &&& (2147483647 : Int32)) % (6 : Int32)) - (1 : Int32)), iv ((0 : Int32) + (((p6 &&& (2147483647 : Int32)) % (6 : Int32)) - (1 : Int32))), .unset, .unset] [(.int 6)])) rfl (hb hby at_27) rfl (by decide) (cap := 6) (by decide) (by decide) (by decide) (by decide)
    obtain ⟨b1, g1⟩ : ∃ z, z = h0.size := ⟨_, rfl⟩
    rw [← g1] at A1 st1
    have sz_b1 : h0.size ≤ b1 := Nat.le_trans K0.1 (Nat.le_of_eq g1.symm)
    have g_b1 : n0 ≤ b1 := Nat.le_trans Z0 sz_b1
    have K1 := K0.ext E1
    have V_2 : Arv Z h1 b1 k1 .byte (6 : Int32) [(.int 0), (.int 0), (.int 0), (.int 0), (.int 0), (.int 0)] (.int 0) := (Arv.new A1 (by decide)).pad (pad_rep [] (.int 0) 6)
    refine Goes.on (fun t k => st1 t k) ?_
    show Goes p e below QQ (T1.setTop (mkF m 29 #[iv p1, iv p2, iv p3, iv p4, iv p5, iv p6, iv 0, iv (((p6 &&& (2147483647 : Int32)) % (6 : Int32)) - (1 : Int32)), iv ((0 : Int32) + (((p6 &&& (2147483647 : Int32)) % (6 : Int32)) - (1 : Int32))), .unset, .unset] [(.ref b1)]))
    refine Goes.on (fun t k => XS.astore X1.here hx rfl (hb hby at_29) rfl rfl (l' := #[iv p1, iv p2, iv p3, iv p4, iv p5, iv p6, iv 0, iv (((p6 &&& (2147483647 : Int32)) % (6 : Int32)) - (1 : Int32)), iv ((0 : Int32) + (((p6 &&& (2147483647 : Int32)) % (6 : Int32)) - (1 : Int32))), rv b1, .unset]) rfl k) ?_
    show Goes p e below QQ (T1.setTop (mkF m 31 #[iv p1, iv p2, iv p3, iv p4, iv p5, iv p6, iv 0, iv (((p6 &&& (2147483647 : Int32)) % (6 : Int32)) - (1 : Int32)), iv ((0 : Int32) + (((p6 &&& (2147483647 : Int32)) % (6 : Int32)) - (1 : Int32))), rv b1, .unset] []))
    refine Goes.on (fun t k => XS.aload X1.here hx rfl (hb hby at_31) rfl rfl k) ?_
    show Goes p e below QQ (T1.setTop (mkF m 33 #[iv p1, iv p2, iv p3, iv p4, iv p5, iv p6, iv 0, iv (((p6 &&& (2147483647 : Int32)) % (6 : Int32)) - (1 : Int32)), iv ((0 : Int32) + (((p6 &&& (2147483647 : Int32)) % (6 : Int32)) - (1 : Int32))), rv b1, .unset] [(.ref b1)]))
    refine Goes.on (fun t k => XS.iconst X1.here hx rfl (hb hby at_33) k) ?_
    show Goes p e below QQ (T1.setTop (mkF m 34 #[iv p1, iv p2, iv p3, iv p4, iv p5, iv p6, iv 0, iv (((p6 &&& (2147483647 : Int32)) % (6 : Int32)) - (1 : Int32)), iv ((0 : Int32) + (((p6 &&& (2147483647 : Int32)) % (6 : Int32)) - (1 : Int32))), rv b1, .unset] [(.int 0), (.ref b1)]))
    refine Goes.on (fun t k => XS.iloadN X1.here hx rfl (hb hby at_34) rfl k) ?_
    show Goes p e below QQ (T1.setTop (mkF m 35 #[iv p1, iv p2, iv p3, iv p4, iv p5, iv p6, iv 0, iv (((p6 &&& (2147483647 : Int32)) % (6 : Int32)) - (1 : Int32)), iv ((0 : Int32) + (((p6 &&& (2147483647 : Int32)) % (6 : Int32)) - (1 : Int32))), rv b1, .unset] [(.int p4), (.int 0), (.ref b1)]))
    refine Goes.on (fun t k => XS.i2b X1.here hx rfl (hb hby at_35) rfl k) ?_
    show Goes p e below QQ (T1.setTop (mkF m 36 #[iv p1, iv p2, iv p3, iv p4, iv p5, iv p6, iv 0, iv (((p6 &&& (2147483647 : Int32)) % (6 : Int32)) - (1 : Int32)), iv ((0 : Int32) + (((p6 &&& (2147483647 : Int32)) % (6 : Int32)) - (1 : Int32))), rv b1, .unset] [(.int p4.toInt8.toInt32), (.int 0), (.ref b1)]))
    obtain ⟨cl3, Ar3, aq3, aS3, aN3, aH3, aG3⟩ := id V_2
    have hin3 := inb_of (j := (0 : Int32)) aS3 ⟨by decide, by decide⟩
    obtain ⟨T4, h4, X4, e4, W4, st4⟩ := stB X1 hx hZ e1 Ar3 (j := (0 : Int32)) hin3 (g := (mkF m 36 #[iv p1, iv p2, iv p3, iv p4, iv p5, iv p6, iv 0, iv (((p6 &&& (2147483647 : Int32)) % (6 : Int32)) - (1 : Int32)), iv ((0 : Int32) + (((p6 &&& (2147483647 : Int32)) % (6 : Int32)) - (1 : Int32))), rv b1, .unset] [(.int p4.toInt8.toInt32), (.int 0), (.ref b1)])) rfl rfl (hb hby at_36)
    have K4 := K1.wr W4 (Or.inr sz_b1)
    have N4 := Fr.snoc X4 N0 g_b1
    have V_5 : Arv Z h4 b1 k1 .byte (6 : Int32) [(.int p4.toInt8.toInt32.toInt8.toInt32), (.int 0), (.int 0), (.int 0), (.int 0), (.int 0)] (.int 0) := Arv.set Ar3 aq3 aS3 aN3 aH3 aG3 (fits_nar_byte _) W4 0 rfl (Nat.le_of_ble_eq_true rfl)
    refine Goes.on (fun t k => st4 t k) ?_
    show Goes p e below QQ (T4.setTop (mkF m 37 #[iv p1, iv p2, iv p3, iv p4, iv p5, iv p6, iv 0, iv (((p6 &&& (2147483647 : Int32)) % (6 : Int32)) - (1 : Int32)), iv ((0 : Int32) + (((p6 &&& (2147483647 : Int32)) % (6 : Int32)) - (1 : Int32))), rv b1, .unset] []))
    refine Goes.on (fun t k => XS.aload X4.here hx rfl (hb hby at_37) rfl rfl k) ?_
    show Goes p e below QQ (T4.setTop (mkF m 39 #[iv p1, iv p2, iv p3, iv p4, iv p5, iv p6, iv 0, iv (((p6 &&& (2147483647 : Int32)) % (6 : Int32)) - (1 : Int32)), iv ((0 : Int32) + (((p6 &&& (2147483647 : Int32)) % (6 : Int32)) - (1 : Int32))), rv b1, .unset] [(.ref b1)]))
    refine Goes.on (fun t k => XS.iconst X4.here hx rfl (hb hby at_39) k) ?_
    show Goes p e below QQ (T4.setTop (mkF m 40 #[iv p1, iv p2, iv p3, iv p4, iv p5, iv p6, iv 0, iv (((p6 &&& (2147483647 : Int32)) % (6 : Int32)) - (1 : Int32)), iv ((0 : Int32) + (((p6 &&& (2147483647 : Int32)) % (6 : Int32)) - (1 : Int32))), rv b1, .unset] [(.int 5), (.ref b1)]))
    refine Goes.on (fun t k => XS.iloadN X4.here hx rfl (hb hby at_40) rfl k) ?_
    show Goes p e below QQ (T4.setTop (mkF m 41 #[iv p1, iv p2, iv p3, iv p4, iv p5, iv p6, iv 0, iv (((p6 &&& (2147483647 : Int32)) % (6 : Int32)) - (1 : Int32)), iv ((0 : Int32) + (((p6 &&& (2147483647 : Int32)) % (6 : Int32)) - (1 : Int32))), rv b1, .unset] [(.int p2), (.int 5), (.ref b1)]))
    refine Goes.on (fun t k => XS.i2b X4.here hx rfl (hb hby at_41) rfl k) ?_
    show Goes p e below QQ (T4.setTop (mkF m 42 #[iv p1, iv p2, iv p3, iv p4, iv p5, iv p6, iv 0, iv (((p6 &&& (2147483647 : Int32)) % (6 : Int32)) - (1 : Int32)), iv ((0 : Int32) + (((p6 &&& (2147483647 : Int32)) % (6 : Int32)) - (1 : Int32))), rv b1, .unset] [(.int p2.toInt8.toInt32), (.int 5), (.ref b1)]))
    obtain ⟨cl6, Ar6, aq6, aS6, aN6, aH6, aG6⟩ := id V_5
    have hin6 := inb_of (j := (5 : Int32)) aS6 ⟨by decide, by decide⟩
    obtain ⟨T7, h7, X7, e7, W7, st7⟩ := stB X4 hx hZ e4 Ar6 (j := (5 : Int32)) hin6 (g := (mkF m 42 #[iv p1, iv p2, iv p3, iv p4, iv p5, iv p6, iv 0, iv (((p6 &&& (2147483647 : Int32)) % (6 : Int32)) - (1 : Int32)), iv ((0 : Int32) + (((p6 &&& (2147483647 : Int32)) % (6 : Int32)) - (1 : Int32))), rv b1, .unset] [(.int p2.toInt8.toInt32), (.int 5), (.ref b1)])) rfl rfl (hb hby at_42)
    have K7 := K4.wr W7 (Or.inr sz_b1)
    have N7 := Fr.snoc X7 N4 g_b1
    have V_8 : Arv Z h7 b1 k1 .byte (6 : Int32) [(.int p4.toInt8.toInt32.toInt8.toInt32), (.int 0), (.int 0), (.int 0), (.int 0), (.int p2.toInt8.toInt32.toInt8.toInt32)] (.int 0) := Arv.set Ar6 aq6 aS6 aN6 aH6 aG6 (fits_nar_byte _) W7 5 rfl (Nat.le_of_ble_eq_true rfl)
    refine Goes.on (fun t k => st7 t k) ?_
    show Goes p e below QQ (T7.setTop (mkF m 43 #[iv p1, iv p2, iv p3, iv p4, iv p5, iv p6, iv 0, iv (((p6 &&& (2147483647 : Int32)) % (6 : Int32)) - (1 : Int32)), iv ((0 : Int32) + (((p6 &&& (2147483647 : Int32)) % (6 : Int32)) - (1 : Int32))), rv b1, .unset] []))
    refine Goes.on (fun t k => XS.aload X7.here hx rfl (hb hby at_43) rfl rfl k) ?_
    show Goes p e below QQ (T7.setTop (mkF m 45 #[iv p1, iv p2, iv p3, iv p4, iv p5, iv p6, iv 0, iv (((p6 &&& (2147483647 : Int32)) % (6 : Int32)) - (1 : Int32)), iv ((0 : Int32) + (((p6 &&& (2147483647 : Int32)) % (6 : Int32)) - (1 : Int32))), rv b1, .unset] [(.ref b1)]))
    refine Goes.on (fun t k => XS.iload X7.here hx rfl (hb hby at_45) rfl k) ?_
    show Goes p e below QQ (T7.setTop (mkF m 47 #[iv p1, iv p2, iv p3, iv p4, iv p5, iv p6, iv 0, iv (((p6 &&& (2147483647 : Int32)) % (6 : Int32)) - (1 : Int32)), iv ((0 : Int32) + (((p6 &&& (2147483647 : Int32)) % (6 : Int32)) - (1 : Int32))), rv b1, .unset] [(.int 0), (.ref b1)]))
    refine Goes.on (fun t k => XS.iloadN X7.here hx rfl (hb hby at_47) rfl k) ?_
    show Goes p e below QQ (T7.setTop (mkF m 48 #[iv p1, iv p2, iv p3, iv p4, iv p5, iv p6, iv 0, iv (((p6 &&& (2147483647 : Int32)) % (6 : Int32)) - (1 : Int32)), iv ((0 : Int32) + (((p6 &&& (2147483647 : Int32)) % (6 : Int32)) - (1 : Int32))), rv b1, .unset] [(.int p1), (.int 0), (.ref b1)]))
    refine Goes.on (fun t k => XS.i2b X7.here hx rfl (hb hby at_48) rfl k) ?_
    show Goes p e below QQ (T7.setTop (mkF m 49 #[iv p1, iv p2, iv p3, iv p4, iv p5, iv p6, iv 0, iv (((p6 &&& (2147483647 : Int32)) % (6 : Int32)) - (1 : Int32)), iv ((0 : Int32) + (((p6 &&& (2147483647 : Int32)) % (6 : Int32)) - (1 : Int32))), rv b1, .unset] [(.int p1.toInt8.toInt32), (.int 0), (.ref b1)]))
    obtain ⟨cl9, Ar9, aq9, aS9, aN9, aH9, aG9⟩ := id V_8
    have hin9 := inb_of (j := (0 : Int32)) aS9 ⟨by decide, by decide⟩
    obtain ⟨T10, h10, X10, e10, W10, st10⟩ := stB X7 hx hZ e7 Ar9 (j := (0 : Int32)) hin9 (g := (mkF m 49 #[iv p1, iv p2, iv p3, iv p4, iv p5, iv p6, iv 0, iv (((p6 &&& (2147483647 : Int32)) % (6 : Int32)) - (1 : Int32)), iv ((0 : Int32) + (((p6 &&& (2147483647 : Int32)) % (6 : Int32)) - (1 : Int32))), rv b1, .unset] [(.int p1.toInt8.toInt32), (.int 0), (.ref b1)])) rfl rfl (hb hby at_49)
    have K10 := K7.wr W10 (Or.inr sz_b1)
    have N10 := Fr.snoc X10 N7 g_b1
    have V_11 : Arv Z h10 b1 k1 .byte (6 : Int32) [(.int p1.toInt8.toInt32.toInt8.toInt32), (.int 0), (.int 0), (.int 0), (.int 0), (.int p2.toInt8.toInt32.toInt8.toInt32)] (.int 0) := Arv.set Ar9 aq9 aS9 aN9 aH9 aG9 (fits_nar_byte _) W10 0 rfl (Nat.le_of_ble_eq_true rfl)
    refine Goes.on (fun t k => st10 t k) ?_
    show Goes p e below QQ (T10.setTop (mkF m 50 #[iv p1, iv p2, iv p3, iv p4, iv p5, iv p6, iv 0, iv (((p6 &&& (2147483647 : Int32)) % (6 : Int32)) - (1 : Int32)), iv ((0 : Int32) + (((p6 &&& (2147483647 : Int32)) % (6 : Int32)) - (1 : Int32))), rv b1, .unset] []))
    refine Goes.on (fun t k => XS.aload X10.here hx rfl (hb hby at_50) rfl rfl k) ?_
    show Goes p e below QQ (T10.setTop (mkF m 52 #[iv p1, iv p2, iv p3, iv p4, iv p5, iv p6, iv 0, iv (((p6 &&& (2147483647 : Int32)) % (6 : Int32)) - (1 : Int32)), iv ((0 : Int32) + (((p6 &&& (2147483647 : Int32)) % (6 : Int32)) - (1 : Int32))), rv b1, .unset] [(.ref b1)]))
    refine Goes.on (fun t k => XS.iload X10.here hx rfl (hb hby at_52) rfl k) ?_
    show Goes p e below QQ (T10.setTop (mkF m 54 #[iv p1, iv p2, iv p3, iv p4, iv p5, iv p6, iv 0, iv (((p6 &&& (2147483647 : Int32)) % (6 : Int32)) - (1 : Int32)), iv ((0 : Int32) + (((p6 &&& (2147483647 : Int32)) % (6 : Int32)) - (1 : Int32))), rv b1, .unset] [(.int 0), (.ref b1)]))
    refine Goes.on (fun t k => XS.iconst X10.here hx rfl (hb hby at_54) k) ?_
    show Goes p e below QQ (T10.setTop (mkF m 55 #[iv p1, iv p2, iv p3, iv p4, iv p5, iv p6, iv 0, iv (((p6 &&& (2147483647 : Int32)) % (6 : Int32)) - (1 : Int32)), iv ((0 : Int32) + (((p6 &&& (2147483647 : Int32)) % (6 : Int32)) - (1 : Int32))), rv b1, .unset] [(.int 1), (.int 0), (.ref b1)]))
    refine Goes.on (fun t k => XS.iadd X10.here hx rfl (hb hby at_55) rfl k) ?_
    show Goes p e below QQ (T10.setTop (mkF m 56 #[iv p1, iv p2, iv p3, iv p4, iv p5, iv p6, iv 0, iv (((p6 &&& (2147483647 : Int32)) % (6 : Int32)) - (1 : Int32)), iv ((0 : Int32) + (((p6 &&& (2147483647 : Int32)) % (6 : Int32)) - (1 : Int32))), rv b1, .unset] [(.int ((0 : Int32) + (1 : Int32))), (.ref b1)]))
    rw [(by decide : ((0 : Int32) + (1 : Int32)) = (1 : Int32))]
    show Goes p e below QQ (T10.setTop (mkF m 56 #[iv p1, iv p2, iv p3, iv p4, iv p5, iv p6, iv 0, iv (((p6 &&& (2147483647 : Int32)) % (6 : Int32)) - (1 : Int32)), iv ((0 : Int32) + (((p6 &&& (2147483647 : Int32)) % (6 : Int32)) - (1 : Int32))), rv b1, .unset] [(.int 1), (.ref b1)]))
    refine Goes.on (fun t k => XS.iloadN X10.here hx rfl (hb hby at_56) rfl k) ?_
    show Goes p e below QQ (T10.setTop (mkF m 57 #[iv p1, iv p2, iv p3, iv p4, iv p5, iv p6, iv 0, iv (((p6 &&& (2147483647 : Int32)) % (6 : Int32)) - (1 : Int32)), iv ((0 : Int32) + (((p6 &&& (2147483647 : Int32)) % (6 : Int32)) - (1 : Int32))), rv b1, .unset] [(.int p2), (.int 1), (.ref b1)]))
    refine Goes.on (fun t k => XS.i2b X10.here hx rfl (hb hby at_57) rfl k) ?_
    show Goes p e below QQ (T10.setTop (mkF m 58 #[iv p1, iv p2, iv p3, iv p4, iv p5, iv p6, iv 0, iv (((p6 &&& (2147483647 : Int32)) % (6 : Int32)) - (1 : Int32)), iv ((0 : Int32) + (((p6 &&& (2147483647 : Int32)) % (6 : Int32)) - (1 : Int32))), rv b1, .unset] [(.int p2.toInt8.toInt32), (.int 1), (.ref b1)]))
    obtain ⟨cl12, Ar12, aq12, aS12, aN12, aH12, aG12⟩ := id V_11
    have hin12 := inb_of (j := (1 : Int32)) aS12 ⟨by decide, by decide⟩
    obtain ⟨T13, h13, X13, e13, W13, st13⟩ := stB X10 hx hZ e10 Ar12 (j := (1 : Int32)) hin12 (g := (mkF m 58 #[iv p1, iv p2, iv p3, iv p4, iv p5, iv p6, iv 0, iv (((p6 &&& (2147483647 : Int32)) % (6 : Int32)) - (1 : Int32)), iv ((0 : Int32) + (((p6 &&& (2147483647 : Int32)) % (6 : Int32)) - (1 : Int32))), rv b1, .unset] [(.int p2.toInt8.toInt32), (.int 1), (.ref b1)])) rfl rfl (hb hby at_58)
    have K13 := K10.wr W13 (Or.inr sz_b1)
    have N13 := Fr.snoc X13 N10 g_b1
    have V_14 : Arv Z h13 b1 k1 .byte (6 : Int32) [(.int p1.toInt8.toInt32.toInt8.toInt32), (.int p2.toInt8.toInt32.toInt8.toInt32), (.int 0), (.int 0), (.int 0), (.int p2.toInt8.toInt32.toInt8.toInt32)] (.int 0) := Arv.set Ar12 aq12 aS12 aN12 aH12 aG12 (fits_nar_byte _) W13 1 rfl (Nat.le_of_ble_eq_true rfl)
    refine Goes.on (fun t k => st13 t k) ?_
    show Goes p e below QQ (T13.setTop (mkF m 59 #[iv p1, iv p2, iv p3, iv p4, iv p5, iv p6, iv 0, iv (((p6 &&& (2147483647 : Int32)) % (6 : Int32)) - (1 : Int32)), iv ((0 : Int32) + (((p6 &&& (2147483647 : Int32)) % (6 : Int32)) - (1 : Int32))), rv b1, .unset] []))
    refine Goes.on (fun t k => XS.aload X13.here hx rfl (hb hby at_59) rfl rfl k) ?_
    show Goes p e below QQ (T13.setTop (mkF m 61 #[iv p1, iv p2, iv p3, iv p4, iv p5, iv p6, iv 0, iv (((p6 &&& (2147483647 : Int32)) % (6 : Int32)) - (1 : Int32)), iv ((0 : Int32) + (((p6 &&& (2147483647 : Int32)) % (6 : Int32)) - (1 : Int32))), rv b1, .unset] [(.ref b1)]))
    refine Goes.on (fun t k => XS.iload X13.here hx rfl (hb hby at_61) rfl k) ?_
    show Goes p e below QQ (T13.setTop (mkF m 63 #[iv p1, iv p2, iv p3, iv p4, iv p5, iv p6, iv 0, iv (((p6 &&& (2147483647 : Int32)) % (6 : Int32)) - (1 : Int32)), iv ((0 : Int32) + (((p6 &&& (2147483647 : Int32)) % (6 : Int32)) - (1 : Int32))), rv b1, .unset] [(.int 0), (.ref b1)]))
    refine Goes.on (fun t k => XS.iconst X13.here hx rfl (hb hby at_63) k) ?_
    show Goes p e below QQ (T13.setTop (mkF m 64 #[iv p1, iv p2, iv p3, iv p4, iv p5, iv p6, iv 0, iv (((p6 &&& (2147483647 : Int32)) % (6 : Int32)) - (1 : Int32)), iv ((0 : Int32) + (((p6 &&& (2147483647 : Int32)) % (6 : Int32)) - (1 : Int32))), rv b1, .unset] [(.int 2), (.int 0), (.ref b1)]))
    refine Goes.on (fun t k => XS.iadd X13.here hx rfl (hb hby at_64) rfl k) ?_
    show Goes p e below QQ (T13.setTop (mkF m 65 #[iv p1, iv p2, iv p3, iv p4, iv p5, iv p6, iv 0, iv (((p6 &&& (2147483647 : Int32)) % (6 : Int32)) - (1 : Int32)), iv ((0 : Int32) + (((p6 &&& (2147483647 : Int32)) % (6 : Int32)) - (1 : Int32))), rv b1, .unset] [(.int ((0 : Int32) + (2 : Int32))), (.ref b1)]))
    rw [(by decide : ((0 : Int32) + (2 : Int32)) = (2 : Int32))]
    show Goes p e below QQ (T13.setTop (mkF m 65 #[iv p1, iv p2, iv p3, iv p4, iv p5, iv p6, iv 0, iv (((p6 &&& (2147483647 : Int32)) % (6 : Int32)) - (1 : Int32)), iv ((0 : Int32) + (((p6 &&& (2147483647 : Int32)) % (6 : Int32)) - (1 : Int32))), rv b1, .unset] [(.int 2), (.ref b1)]))
    refine Goes.on (fun t k => XS.iloadN X13.here hx rfl (hb hby at_65) rfl k) ?_
    show Goes p e below QQ (T13.setTop (mkF m 66 #[iv p1, iv p2, iv p3, iv p4, iv p5, iv p6, iv 0, iv (((p6 &&& (2147483647 : Int32)) % (6 : Int32)) - (1 : Int32)), iv ((0 : Int32) + (((p6 &&& (2147483647 : Int32)) % (6 : Int32)) - (1 : Int32))), rv b1, .unset] [(.int p3), (.int 2), (.ref b1)]))
    refine Goes.on (fun t k => XS.i2b X13.here hx rfl (hb hby at_66) rfl k) ?_
    show Goes p e below QQ (T13.setTop (mkF m 67 #[iv p1, iv p2, iv p3, iv p4, iv p5, iv p6, iv 0, iv (((p6 &&& (2147483647 : Int32)) % (6 : Int32)) - (1 : Int32)), iv ((0 : Int32) + (((p6 &&& (2147483647 : Int32)) % (6 : Int32)) - (1 : Int32))), rv b1, .unset] [(.int p3.toInt8.toInt32), (.int 2), (.ref b1)]))
    obtain ⟨cl15, Ar15, aq15, aS15, aN15, aH15, aG15⟩ := id V_14
    have hin15 := inb_of (j := (2 : Int32)) aS15 ⟨by decide, by decide⟩
    obtain ⟨T16, h16, X16, e16, W16, st16⟩ := stB X13 hx hZ e13 Ar15 (j := (2 : Int32)) hin15 (g := (mkF m 67 #[iv p1, iv p2, iv p3, iv p4, iv p5, iv p6, iv 0, iv (((p6 &&& (2147483647 : Int32)) % (6 : Int32)) - (1 : Int32)), iv ((0 : Int32) + (((p6 &&& (2147483647 : Int32)) % (6 : Int32)) - (1 : Int32))), rv b1, .unset] [(.int p3.toInt8.toInt32), (.int 2), (.ref b1)])) rfl rfl (hb hby at_67)
    have K16 := K13.wr W16 (Or.inr sz_b1)
    have N16 := Fr.snoc X16 N13 g_b1
    have V_17 : Arv Z h16 b1 k1 .byte (6 : Int32) [(.int p1.toInt8.toInt32.toInt8.toInt32), (.int p2.toInt8.toInt32.toInt8.toInt32), (.int p3.toInt8.toInt32.toInt8.toInt32), (.int 0), (.int 0), (.int p2.toInt8.toInt32.toInt8.toInt32)] (.int 0) := Arv.set Ar15 aq15 aS15 aN15 aH15 aG15 (fits_nar_byte _) W16 2 rfl (Nat.le_of_ble_eq_true rfl)
    refine Goes.on (fun t k => st16 t k) ?_
    show Goes p e below QQ (T16.setTop (mkF m 68 #[iv p1, iv p2, iv p3, iv p4, iv p5, iv p6, iv 0, iv (((p6 &&& (2147483647 : Int32)) % (6 : Int32)) - (1 : Int32)), iv ((0 : Int32) + (((p6 &&& (2147483647 : Int32)) % (6 : Int32)) - (1 : Int32))), rv b1, .unset] []))
    refine Goes.on (fun t k => XS.aload X16.here hx rfl (hb hby at_68) rfl rfl k) ?_
    show Goes p e below QQ (T16.setTop (mkF m 70 #[iv p1, iv p2, iv p3, iv p4, iv p5, iv p6, iv 0, iv (((p6 &&& (2147483647 : Int32)) % (6 : Int32)) - (1 : Int32)), iv ((0 : Int32) + (((p6 &&& (2147483647 : Int32)) % (6 : Int32)) - (1 : Int32))), rv b1, .unset] [(.ref b1)]))
    refine Goes.on (fun t k => XS.iload X16.here hx rfl (hb hby at_70) rfl k) ?_
    show Goes p e below QQ (T16.setTop (mkF m 72 #[iv p1, iv p2, iv p3, iv p4, iv p5, iv p6, iv 0, iv (((p6 &&& (2147483647 : Int32)) % (6 : Int32)) - (1 : Int32)), iv ((0 : Int32) + (((p6 &&& (2147483647 : Int32)) % (6 : Int32)) - (1 : Int32))), rv b1, .unset] [(.int 0), (.ref b1)]))
    refine Goes.on (fun t k => XS.iconst X16.here hx rfl (hb hby at_72) k) ?_
    show Goes p e below QQ (T16.setTop (mkF m 73 #[iv p1, iv p2, iv p3, iv p4, iv p5, iv p6, iv 0, iv (((p6 &&& (2147483647 : Int32)) % (6 : Int32)) - (1 : Int32)), iv ((0 : Int32) + (((p6 &&& (2147483647 : Int32)) % (6 : Int32)) - (1 : Int32))), rv b1, .unset] [(.int 3), (.int 0), (.ref b1)]))
    refine Goes.on (fun t k => XS.iadd X16.here hx rfl (hb hby at_73) rfl k) ?_
    show Goes p e below QQ (T16.setTop (mkF m 74 #[iv p1, iv p2, iv p3, iv p4, iv p5, iv p6, iv 0, iv (((p6 &&& (2147483647 : Int32)) % (6 : Int32)) - (1 : Int32)), iv ((0 : Int32) + (((p6 &&& (2147483647 : Int32)) % (6 : Int32)) - (1 : Int32))), rv b1, .unset] [(.int ((0 : Int32) + (3 : Int32))), (.ref b1)]))
    rw [(by decide : ((0 : Int32) + (3 : Int32)) = (3 : Int32))]
    show Goes p e below QQ (T16.setTop (mkF m 74 #[iv p1, iv p2, iv p3, iv p4, iv p5, iv p6, iv 0, iv (((p6 &&& (2147483647 : Int32)) % (6 : Int32)) - (1 : Int32)), iv ((0 : Int32) + (((p6 &&& (2147483647 : Int32)) % (6 : Int32)) - (1 : Int32))), rv b1, .unset] [(.int 3), (.ref b1)]))
    refine Goes.on (fun t k => XS.iloadN X16.here hx rfl (hb hby at_74) rfl k) ?_
    show Goes p e below QQ (T16.setTop (mkF m 75 #[iv p1, iv p2, iv p3, iv p4, iv p5, iv p6, iv 0, iv (((p6 &&& (2147483647 : Int32)) % (6 : Int32)) - (1 : Int32)), iv ((0 : Int32) + (((p6 &&& (2147483647 : Int32)) % (6 : Int32)) - (1 : Int32))), rv b1, .unset] [(.int p4), (.int 3), (.ref b1)]))
    refine Goes.on (fun t k => XS.i2b X16.here hx rfl (hb hby at_75) rfl k) ?_
    show Goes p e below QQ (T16.setTop (mkF m 76 #[iv p1, iv p2, iv p3, iv p4, iv p5, iv p6, iv 0, iv (((p6 &&& (2147483647 : Int32)) % (6 : Int32)) - (1 : Int32)), iv ((0 : Int32) + (((p6 &&& (2147483647 : Int32)) % (6 : Int32)) - (1 : Int32))), rv b1, .unset] [(.int p4.toInt8.toInt32), (.int 3), (.ref b1)]))
    obtain ⟨cl18, Ar18, aq18, aS18, aN18, aH18, aG18⟩ := id V_17
    have hin18 := inb_of (j := (3 : Int32)) aS18 ⟨by decide, by decide⟩
    obtain ⟨T19, h19, X19, e19, W19, st19⟩ := stB X16 hx hZ e16 Ar18 (j := (3 : Int32)) hin18 (g := (mkF m 76 #[iv p1, iv p2, iv p3, iv p4, iv p5, iv p6, iv 0, iv (((p6 &&& (2147483647 : Int32)) % (6 : Int32)) - (1 : Int32)), iv ((0 : Int32) + (((p6 &&& (2147483647 : Int32)) % (6 : Int32)) - (1 : Int32))), rv b1, .unset] [(.int p4.toInt8.toInt32), (.int 3), (.ref b1)])) rfl rfl (hb hby at_76)
    have K19 := K16.wr W19 (Or.inr sz_b1)
    have N19 := Fr.snoc X19 N16 g_b1
    have V_20 : Arv Z h19 b1 k1 .byte (6 : Int32) [(.int p1.toInt8.toInt32.toInt8.toInt32), (.int p2.toInt8.toInt32.toInt8.toInt32), (.int p3.toInt8.toInt32.toInt8.toInt32), (.int p4.toInt8.toInt32.toInt8.toInt32), (.int 0), (.int p2.toInt8.toInt32.toInt8.toInt32)] (.int 0) := Arv.set Ar18 aq18 aS18 aN18 aH18 aG18 (fits_nar_byte _) W19 3 rfl (Nat.le_of_ble_eq_true rfl)
    refine Goes.on (fun t k => st19 t k) ?_
    show Goes p e below QQ (T19.setTop (mkF m 77 #[iv p1, iv p2, iv p3, iv p4, iv p5, iv p6, iv 0, iv (((p6 &&& (2147483647 : Int32)) % (6 : Int32)) - (1 : Int32)), iv ((0 : Int32) + (((p6 &&& (2147483647 : Int32)) % (6 : Int32)) - (1 : Int32))), rv b1, .unset] []))
    refine Goes.on (fun t k => XS.iloadN X19.here hx rfl (hb hby at_77) rfl k) ?_
    show Goes p e below QQ (T19.setTop (mkF m 78 #[iv p1, iv p2, iv p3, iv p4, iv p5, iv p6, iv 0, iv (((p6 &&& (2147483647 : Int32)) % (6 : Int32)) - (1 : Int32)), iv ((0 : Int32) + (((p6 &&& (2147483647 : Int32)) % (6 : Int32)) - (1 : Int32))), rv b1, .unset] [(.int p1)]))
    refine Goes.on (fun t k => XS.sipush X19.here hx rfl (hb hby at_78) k) ?_
    show Goes p e below QQ (T19.setTop (mkF m 81 #[iv p1, iv p2, iv p3, iv p4, iv p5, iv p6, iv 0, iv (((p6 &&& (2147483647 : Int32)) % (6 : Int32)) - (1 : Int32)), iv ((0 : Int32) + (((p6 &&& (2147483647 : Int32)) % (6 : Int32)) - (1 : Int32))), rv b1, .unset] [(.int 255), (.int p1)]))
    refine Goes.on (fun t k => XS.iand X19.here hx rfl (hb hby at_81) rfl k) ?_
    show Goes p e below QQ (T19.setTop (mkF m 82 #[iv p1, iv p2, iv p3, iv p4, iv p5, iv p6, iv 0, iv (((p6 &&& (2147483647 : Int32)) % (6 : Int32)) - (1 : Int32)), iv ((0 : Int32) + (((p6 &&& (2147483647 : Int32)) % (6 : Int32)) - (1 : Int32))), rv b1, .unset] [(.int (p1 &&& (255 : Int32)))]))
    refine Goes.on (fun t k => XS.iloadN X19.here hx rfl (hb hby at_82) rfl k) ?_
    show Goes p e below QQ (T19.setTop (mkF m 83 #[iv p1, iv p2, iv p3, iv p4, iv p5, iv p6, iv 0, iv (((p6 &&& (2147483647 : Int32)) % (6 : Int32)) - (1 : Int32)), iv ((0 : Int32) + (((p6 &&& (2147483647 : Int32)) % (6 : Int32)) - (1 : Int32))), rv b1, .unset] [(.int p2), (.int (p1 &&& (255 : Int32)))]))
    refine Goes.on (fun t k => XS.sipush X19.here hx rfl (hb hby at_83) k) ?_
    show Goes p e below QQ (T19.setTop (mkF m 86 #[iv p1, iv p2, iv p3, iv p4, iv p5, iv p6, iv 0, iv (((p6 &&& (2147483647 : Int32)) % (6 : Int32)) - (1 : Int32)), iv ((0 : Int32) + (((p6 &&& (2147483647 : Int32)) % (6 : Int32)) - (1 : Int32))), rv b1, .unset] [(.int 255), (.int p2), (.int (p1 &&& (255 : Int32)))]))
    refine Goes.on (fun t k => XS.iand X19.here hx rfl (hb hby at_86) rfl k) ?_
    show Goes p e below QQ (T19.setTop (mkF m 87 #[iv p1, iv p2, iv p3, iv p4, iv p5, iv p6, iv 0, iv (((p6 &&& (2147483647 : Int32)) % (6 : Int32)) - (1 : Int32)), iv ((0 : Int32) + (((p6 &&& (2147483647 : Int32)) % (6 : Int32)) - (1 : Int32))), rv b1, .unset] [(.int (p2 &&& (255 : Int32))), (.int (p1 &&& (255 : Int32)))]))
    refine Goes.on (fun t k => XS.iloadN X19.here hx rfl (hb hby at_87) rfl k) ?_
    show Goes p e below QQ (T19.setTop (mkF m 88 #[iv p1, iv p2, iv p3, iv p4, iv p5, iv p6, iv 0, iv (((p6 &&& (2147483647 : Int32)) % (6 : Int32)) - (1 : Int32)), iv ((0 : Int32) + (((p6 &&& (2147483647 : Int32)) % (6 : Int32)) - (1 : Int32))), rv b1, .unset] [(.int p3), (.int (p2 &&& (255 : Int32))), (.int (p1 &&& (255 : Int32)))]))
    refine Goes.on (fun t k => XS.sipush X19.here hx rfl (hb hby at_88) k) ?_
    show Goes p e below QQ (T19.setTop (mkF m 91 #[iv p1, iv p2, iv p3, iv p4, iv p5, iv p6, iv 0, iv (((p6 &&& (2147483647 : Int32)) % (6 : Int32)) - (1 : Int32)), iv ((0 : Int32) + (((p6 &&& (2147483647 : Int32)) % (6 : Int32)) - (1 : Int32))), rv b1, .unset] [(.int 255), (.int p3), (.int (p2 &&& (255 : Int32))), (.int (p1 &&& (255 : Int32)))]))
    refine Goes.on (fun t k => XS.iand X19.here hx rfl (hb hby at_91) rfl k) ?_
    show Goes p e below QQ (T19.setTop (mkF m 92 #[iv p1, iv p2, iv p3, iv p4, iv p5, iv p6, iv 0, iv (((p6 &&& (2147483647 : Int32)) % (6 : Int32)) - (1 : Int32)), iv ((0 : Int32) + (((p6 &&& (2147483647 : Int32)) % (6 : Int32)) - (1 : Int32))), rv b1, .unset] [(.int (p3 &&& (255 : Int32))), (.int (p2 &&& (255 : Int32))), (.int (p1 &&& (255 : Int32)))]))
    refine Goes.on (fun t k => XS.iloadN X19.here hx rfl (hb hby at_92) rfl k) ?_
    show Goes p e below QQ (T19.setTop (mkF m 93 #[iv p1, iv p2, iv p3, iv p4, iv p5, iv p6, iv 0, iv (((p6 &&& (2147483647 : Int32)) % (6 : Int32)) - (1 : Int32)), iv ((0 : Int32) + (((p6 &&& (2147483647 : Int32)) % (6 : Int32)) - (1 : Int32))), rv b1, .unset] [(.int p4), (.int (p3 &&& (255 : Int32))), (.int (p2 &&& (255 : Int32))), (.int (p1 &&& (255 : Int32)))]))
    refine Goes.on (fun t k => XS.sipush X19.here hx rfl (hb hby at_93) k) ?_
    show Goes p e below QQ (T19.setTop (mkF m 96 #[iv p1, iv p2, iv p3, iv p4, iv p5, iv p6, iv 0, iv (((p6 &&& (2147483647 : Int32)) % (6 : Int32)) - (1 : Int32)), iv ((0 : Int32) + (((p6 &&& (2147483647 : Int32)) % (6 : Int32)) - (1 : Int32))), rv b1, .unset] [(.int 255), (.int p4), (.int (p3 &&& (255 : Int32))), (.int (p2 &&& (255 : Int32))), (.int (p1 &&& (255 : Int32)))]))
    refine Goes.on (fun t k => XS.iand X19.here hx rfl (hb hby at_96) rfl k) ?_
    show Goes p e below QQ (T19.setTop (mkF m 97 #[iv p1, iv p2, iv p3, iv p4, iv p5, iv p6, iv 0, iv (((p6 &&& (2147483647 : Int32)) % (6 : Int32)) - (1 : Int32)), iv ((0 : Int32) + (((p6 &&& (2147483647 : Int32)) % (6 : Int32)) - (1 : Int32))), rv b1, .unset] [(.int (p4 &&& (255 : Int32))), (.int (p3 &&& (255 : Int32))), (.int (p2 &&& (255 : Int32))), (.int (p1 &&& (255 : Int32)))]))
    refine Goes.on (fun t k => XS.iload X19.here hx rfl (hb hby at_97) rfl k) ?_
    show Goes p e below QQ (T19.setTop (mkF m 99 #[iv p1, iv p2, iv p3, iv p4, iv p5, iv p6, iv 0, iv (((p6 &&& (2147483647 : Int32)) % (6 : Int32)) - (1 : Int32)), iv ((0 : Int32) + (((p6 &&& (2147483647 : Int32)) % (6 : Int32)) - (1 : Int32))), rv b1, .unset] [(.int (((p6 &&& (2147483647 : Int32)) % (6 : Int32)) - (1 : Int32))), (.int (p4 &&& (255 : Int32))), (.int (p3 &&& (255 : Int32))), (.int (p2 &&& (255 : Int32))), (.int (p1 &&& (255 : Int32)))]))
    obtain ⟨_, _, ⟨T21, L21, k21, n21⟩, -, X21, ⟨Lc21, hQ21, l21, y21, z21⟩, st21⟩ := Jvm.LawKit.callS X19 hx (y := (⟨"com/example/sober_links/soberlinks/io/Utf8SequenceLengthPinLaw", "expected", "(IIIII)I"⟩ : MethodName)) hown (mvT hZ (hw _ (List.mem_of_getElem? (i := 2) rfl))) (mvT hZ (hw _ (List.mem_of_getElem? (i := 3) rfl))) (mvT hZ (hw _ (List.mem_of_getElem? (i := 4) rfl))) (mvT hZ (hw _ (List.mem_of_getElem? (i := 5) rfl))) (by decide) (backOf (W := 0) (rm2 l Z a0 hw [] (p1 &&& (255 : Int32)) (p2 &&& (255 : Int32)) (p3 &&& (255 : Int32)) (p4 &&& (255 : Int32)) (((p6 &&& (2147483647 : Int32)) % (6 : Int32)) - (1 : Int32)) h19 n0 (Nat.le_trans Z0 K19.1) ) hZ (hw _ (List.mem_of_getElem? (i := 5) rfl)) (hw _ (List.mem_of_getElem? (i := 4) rfl)) (by decide) (by decide)) (g := (mkF m 99 #[iv p1, iv p2, iv p3, iv p4, iv p5, iv p6, iv 0, iv (((p6 &&& (2147483647 : Int32)) % (6 : Int32)) - (1 : Int32)), iv ((0 : Int32) + (((p6 &&& (2147483647 : Int32)) % (6 : Int32)) - (1 : Int32))), rv b1, .unset] [(.int (((p6 &&& (2147483647 : Int32)) % (6 : Int32)) - (1 : Int32))), (.int (p4 &&& (255 : Int32))), (.int (p3 &&& (255 : Int32))), (.int (p2 &&& (255 : Int32))), (.int (p1 &&& (255 : Int32)))])) rfl (by rw [hml]; rfl) (argsL := [(.int (p1 &&& (255 : Int32))), (.int (p2 &&& (255 : Int32))), (.int (p3 &&& (255 : Int32))), (.int (p4 &&& (255 : Int32))), (.int (((p6 &&& (2147483647 : Int32)) % (6 : Int32)) - (1 : Int32)))]) (rest := []) (lenOf pd_1 rfl) rfl (by show 2 * 0 + _ ≤ _; exact Nat.le_of_eq rfl) (hb hby at_99) (fun _ _ => ⟨rfl, e19, (by decide : 1 + 0 ≤ _), (by decide : 6 + 0 ≤ _)⟩)
    dsimp only [Pt.U, Pt.locs, Pt.cells, Pt.slots] at X21 l21 y21 z21 st21 hQ21
    subst l21 y21 z21
    obtain ⟨rfl, M21, e21⟩ := hQ21
    have N21 := Fr.app N19 M21
    refine Goes.on (fun t k => st21 _ k) ?_
    show Goes p e below QQ (T21.setTop (mkF m 102 #[iv p1, iv p2, iv p3, iv p4, iv p5, iv p6, iv 0, iv (((p6 &&& (2147483647 : Int32)) % (6 : Int32)) - (1 : Int32)), iv ((0 : Int32) + (((p6 &&& (2147483647 : Int32)) % (6 : Int32)) - (1 : Int32))), rv b1, .unset] [(.int (expF (p1 &&& (255 : Int32)) (p2 &&& (255 : Int32)) (p3 &&& (255 : Int32)) (p4 &&& (255 : Int32)) (((p6 &&& (2147483647 : Int32)) % (6 : Int32)) - (1 : Int32))))]))
    refine Goes.on (fun t k => XS.istore X21.here hx rfl (hb hby at_102) rfl (l' := #[iv p1, iv p2, iv p3, iv p4, iv p5, iv p6, iv 0, iv (((p6 &&& (2147483647 : Int32)) % (6 : Int32)) - (1 : Int32)), iv ((0 : Int32) + (((p6 &&& (2147483647 : Int32)) % (6 : Int32)) - (1 : Int32))), rv b1, iv (expF (p1 &&& (255 : Int32)) (p2 &&& (255 : Int32)) (p3 &&& (255 : Int32)) (p4 &&& (255 : Int32)) (((p6 &&& (2147483647 : Int32)) % (6 : Int32)) - (1 : Int32)))]) rfl k) ?_
    show Goes p e below QQ (T21.setTop (mkF m 104 #[iv p1, iv p2, iv p3, iv p4, iv p5, iv p6, iv 0, iv (((p6 &&& (2147483647 : Int32)) % (6 : Int32)) - (1 : Int32)), iv ((0 : Int32) + (((p6 &&& (2147483647 : Int32)) % (6 : Int32)) - (1 : Int32))), rv b1, iv (expF (p1 &&& (255 : Int32)) (p2 &&& (255 : Int32)) (p3 &&& (255 : Int32)) (p4 &&& (255 : Int32)) (((p6 &&& (2147483647 : Int32)) % (6 : Int32)) - (1 : Int32)))] []))
    refine Goes.on (fun t k => XS.aload X21.here hx rfl (hb hby at_104) rfl rfl k) ?_
    show Goes p e below QQ (T21.setTop (mkF m 106 #[iv p1, iv p2, iv p3, iv p4, iv p5, iv p6, iv 0, iv (((p6 &&& (2147483647 : Int32)) % (6 : Int32)) - (1 : Int32)), iv ((0 : Int32) + (((p6 &&& (2147483647 : Int32)) % (6 : Int32)) - (1 : Int32))), rv b1, iv (expF (p1 &&& (255 : Int32)) (p2 &&& (255 : Int32)) (p3 &&& (255 : Int32)) (p4 &&& (255 : Int32)) (((p6 &&& (2147483647 : Int32)) % (6 : Int32)) - (1 : Int32)))] [(.ref b1)]))
    refine Goes.on (fun t k => XS.iload X21.here hx rfl (hb hby at_106) rfl k) ?_
    show Goes p e below QQ (T21.setTop (mkF m 108 #[iv p1, iv p2, iv p3, iv p4, iv p5, iv p6, iv 0, iv (((p6 &&& (2147483647 : Int32)) % (6 : Int32)) - (1 : Int32)), iv ((0 : Int32) + (((p6 &&& (2147483647 : Int32)) % (6 : Int32)) - (1 : Int32))), rv b1, iv (expF (p1 &&& (255 : Int32)) (p2 &&& (255 : Int32)) (p3 &&& (255 : Int32)) (p4 &&& (255 : Int32)) (((p6 &&& (2147483647 : Int32)) % (6 : Int32)) - (1 : Int32)))] [(.int 0), (.ref b1)]))
    refine Goes.on (fun t k => XS.iload X21.here hx rfl (hb hby at_108) rfl k) ?_
    show Goes p e below QQ (T21.setTop (mkF m 110 #[iv p1, iv p2, iv p3, iv p4, iv p5, iv p6, iv 0, iv (((p6 &&& (2147483647 : Int32)) % (6 : Int32)) - (1 : Int32)), iv ((0 : Int32) + (((p6 &&& (2147483647 : Int32)) % (6 : Int32)) - (1 : Int32))), rv b1, iv (expF (p1 &&& (255 : Int32)) (p2 &&& (255 : Int32)) (p3 &&& (255 : Int32)) (p4 &&& (255 : Int32)) (((p6 &&& (2147483647 : Int32)) % (6 : Int32)) - (1 : Int32)))] [(.int ((0 : Int32) + (((p6 &&& (2147483647 : Int32)) % (6 : Int32)) - (1 : Int32)))), (.int 0), (.ref b1)]))
    obtain ⟨_, _, ⟨T22, L22, k22, n22⟩, -, X22, ⟨Lc22, hQ22, l22, y22, z22⟩, st22⟩ := Jvm.LawKit.callS X21 hx (y := (⟨"com/example/sober_links/soberlinks/io/Utf8", "sequenceLength", "([BII)I"⟩ : MethodName)) hown (mvT hZ (hw _ (List.mem_of_getElem? (i := 6) rfl))) (mvT hZ (hw _ (List.mem_of_getElem? (i := 7) rfl))) (mvT hZ (hw _ (List.mem_of_getElem? (i := 8) rfl))) (mvT hZ (hw _ (List.mem_of_getElem? (i := 9) rfl))) (by decide) (backOf (W := 0) (rm3 l Z a0 hw [] b1 (0 : Int32) ((0 : Int32) + (((p6 &&& (2147483647 : Int32)) % (6 : Int32)) - (1 : Int32))) k1 (6 : Int32) [(.int p1.toInt8.toInt32.toInt8.toInt32), (.int p2.toInt8.toInt32.toInt8.toInt32), (.int p3.toInt8.toInt32.toInt8.toInt32), (.int p4.toInt8.toInt32.toInt8.toInt32), (.int 0), (.int p2.toInt8.toInt32.toInt8.toInt32)] p1.toInt8.toInt32.toInt8.toInt32 p2.toInt8.toInt32.toInt8.toInt32 p3.toInt8.toInt32.toInt8.toInt32 p4.toInt8.toInt32.toInt8.toInt32 h19 n0 (Nat.le_trans Z0 K19.1) V_20 ⟨by decide, by decide⟩ rfl ⟨by decide, by decide⟩ rfl ⟨by decide, by decide⟩ rfl ⟨by decide, by decide⟩ rfl) hZ (hw _ (List.mem_of_getElem? (i := 9) rfl)) (hw _ (List.mem_of_getElem? (i := 8) rfl)) (by decide) (by decide)) (g := (mkF m 110 #[iv p1, iv p2, iv p3, iv p4, iv p5, iv p6, iv 0, iv (((p6 &&& (2147483647 : Int32)) % (6 : Int32)) - (1 : Int32)), iv ((0 : Int32) + (((p6 &&& (2147483647 : Int32)) % (6 : Int32)) - (1 : Int32))), rv b1, iv (expF (p1 &&& (255 : Int32)) (p2 &&& (255 : Int32)) (p3 &&& (255 : Int32)) (p4 &&& (255 : Int32)) (((p6 &&& (2147483647 : Int32)) % (6 : Int32)) - (1 : Int32)))] [(.int ((0 : Int32) + (((p6 &&& (2147483647 : Int32)) % (6 : Int32)) - (1 : Int32)))), (.int 0), (.ref b1)])) rfl (by rw [hml]; rfl) (argsL := [(.ref b1), (.int 0), (.int ((0 : Int32) + (((p6 &&& (2147483647 : Int32)) % (6 : Int32)) - (1 : Int32))))]) (rest := []) (lenOf pd_2 rfl) rfl (by show 2 * 0 + _ ≤ _; exact Nat.le_of_eq rfl) (hb hby at_110) (fun _ _ => ⟨rfl, e21, (by decide : 1 + 0 ≤ _), (by decide : 6 + 0 ≤ _)⟩)
    dsimp only [Pt.U, Pt.locs, Pt.cells, Pt.slots] at X22 l22 y22 z22 st22 hQ22
    subst l22 y22 z22
    obtain ⟨rfl, M22, e22⟩ := hQ22
    have N22 := Fr.app N21 M22
    refine Goes.on (fun t k => st22 _ k) ?_
    show Goes p e below QQ (T22.setTop (mkF m 113 #[iv p1, iv p2, iv p3, iv p4, iv p5, iv p6, iv 0, iv (((p6 &&& (2147483647 : Int32)) % (6 : Int32)) - (1 : Int32)), iv ((0 : Int32) + (((p6 &&& (2147483647 : Int32)) % (6 : Int32)) - (1 : Int32))), rv b1, iv (expF (p1 &&& (255 : Int32)) (p2 &&& (255 : Int32)) (p3 &&& (255 : Int32)) (p4 &&& (255 : Int32)) (((p6 &&& (2147483647 : Int32)) % (6 : Int32)) - (1 : Int32)))] [(.int (seqF (0 : Int32) ((0 : Int32) + (((p6 &&& (2147483647 : Int32)) % (6 : Int32)) - (1 : Int32))) p1.toInt8.toInt32.toInt8.toInt32 p2.toInt8.toInt32.toInt8.toInt32 p3.toInt8.toInt32.toInt8.toInt32 p4.toInt8.toInt32.toInt8.toInt32))]))
    refine Goes.on (fun t k => XS.iload X22.here hx rfl (hb hby at_113) rfl k) ?_
    show Goes p e below QQ (T22.setTop (mkF m 115 #[iv p1, iv p2, iv p3, iv p4, iv p5, iv p6, iv 0, iv (((p6 &&& (2147483647 : Int32)) % (6 : Int32)) - (1 : Int32)), iv ((0 : Int32) + (((p6 &&& (2147483647 : Int32)) % (6 : Int32)) - (1 : Int32))), rv b1, iv (expF (p1 &&& (255 : Int32)) (p2 &&& (255 : Int32)) (p3 &&& (255 : Int32)) (p4 &&& (255 : Int32)) (((p6 &&& (2147483647 : Int32)) % (6 : Int32)) - (1 : Int32)))] [(.int (expF (p1 &&& (255 : Int32)) (p2 &&& (255 : Int32)) (p3 &&& (255 : Int32)) (p4 &&& (255 : Int32)) (((p6 &&& (2147483647 : Int32)) % (6 : Int32)) - (1 : Int32)))), (.int (seqF (0 : Int32) ((0 : Int32) + (((p6 &&& (2147483647 : Int32)) % (6 : Int32)) - (1 : Int32))) p1.toInt8.toInt32.toInt8.toInt32 p2.toInt8.toInt32.toInt8.toInt32 p3.toInt8.toInt32.toInt8.toInt32 p4.toInt8.toInt32.toInt8.toInt32))]))
    by_cases hb23 : (seqF (0 : Int32) ((0 : Int32) + (((p6 &&& (2147483647 : Int32)) % (6 : Int32)) - (1 : Int32))) p1.toInt8.toInt32.toInt8.toInt32 p2.toInt8.toInt32.toInt8.toInt32 p3.toInt8.toInt32.toInt8.toInt32 p4.toInt8.toInt32.toInt8.toInt32) = (expF (p1 &&& (255 : Int32)) (p2 &&& (255 : Int32)) (p3 &&& (255 : Int32)) (p4 &&& (255 : Int32)) (((p6 &&& (2147483647 : Int32)) % (6 : Int32)) - (1 : Int32)))
    · refine Goes.on (fun t k => XS.icmpNo X22.here hx rfl (hb hby at_115) rfl (teq hb23).2 k) ?_
      show Goes p e below QQ (T22.setTop (mkF m 118 #[iv p1, iv p2, iv p3, iv p4, iv p5, iv p6, iv 0, iv (((p6 &&& (2147483647 : Int32)) % (6 : Int32)) - (1 : Int32)), iv ((0 : Int32) + (((p6 &&& (2147483647 : Int32)) % (6 : Int32)) - (1 : Int32))), rv b1, iv (expF (p1 &&& (255 : Int32)) (p2 &&& (255 : Int32)) (p3 &&& (255 : Int32)) (p4 &&& (255 : Int32)) (((p6 &&& (2147483647 : Int32)) % (6 : Int32)) - (1 : Int32)))] []))
      refine Goes.on (fun t k => XS.iconst X22.here hx rfl (hb hby at_118) k) ?_
      show Goes p e below QQ (T22.setTop (mkF m 119 #[iv p1, iv p2, iv p3, iv p4, iv p5, iv p6, iv 0, iv (((p6 &&& (2147483647 : Int32)) % (6 : Int32)) - (1 : Int32)), iv ((0 : Int32) + (((p6 &&& (2147483647 : Int32)) % (6 : Int32)) - (1 : Int32))), rv b1, iv (expF (p1 &&& (255 : Int32)) (p2 &&& (255 : Int32)) (p3 &&& (255 : Int32)) (p4 &&& (255 : Int32)) (((p6 &&& (2147483647 : Int32)) % (6 : Int32)) - (1 : Int32)))] [(.int 1)]))
      refine Goes.on (fun t k => XS.goto X22.here hx rfl (pc0 := 119) (pc' := 123) rfl (hb hby at_119) (by decide) (by decide) k) ?_
      show Goes p e below QQ (T22.setTop (mkF m 123 #[iv p1, iv p2, iv p3, iv p4, iv p5, iv p6, iv 0, iv (((p6 &&& (2147483647 : Int32)) % (6 : Int32)) - (1 : Int32)), iv ((0 : Int32) + (((p6 &&& (2147483647 : Int32)) % (6 : Int32)) - (1 : Int32))), rv b1, iv (expF (p1 &&& (255 : Int32)) (p2 &&& (255 : Int32)) (p3 &&& (255 : Int32)) (p4 &&& (255 : Int32)) (((p6 &&& (2147483647 : Int32)) % (6 : Int32)) - (1 : Int32)))] [(.int 1)]))
      exact Goes.rN X22 hx (t := .boolean) hret (by simp) hlk (hb hby at_123) hQQ ⟨rfl, N22⟩ (by decide) (by decide)
    · refine Goes.on (fun t k => XS.icmpYes X22.here hx rfl (pc0 := 115) (pc' := 122) rfl (hb hby at_115) rfl (feq hb23).2 (by decide) (by decide) k) ?_
      show Goes p e below QQ (T22.setTop (mkF m 122 #[iv p1, iv p2, iv p3, iv p4, iv p5, iv p6, iv 0, iv (((p6 &&& (2147483647 : Int32)) % (6 : Int32)) - (1 : Int32)), iv ((0 : Int32) + (((p6 &&& (2147483647 : Int32)) % (6 : Int32)) - (1 : Int32))), rv b1, iv (expF (p1 &&& (255 : Int32)) (p2 &&& (255 : Int32)) (p3 &&& (255 : Int32)) (p4 &&& (255 : Int32)) (((p6 &&& (2147483647 : Int32)) % (6 : Int32)) - (1 : Int32)))] []))
      refine Goes.on (fun t k => XS.iconst X22.here hx rfl (hb hby at_122) k) ?_
      show Goes p e below QQ (T22.setTop (mkF m 123 #[iv p1, iv p2, iv p3, iv p4, iv p5, iv p6, iv 0, iv (((p6 &&& (2147483647 : Int32)) % (6 : Int32)) - (1 : Int32)), iv ((0 : Int32) + (((p6 &&& (2147483647 : Int32)) % (6 : Int32)) - (1 : Int32))), rv b1, iv (expF (p1 &&& (255 : Int32)) (p2 &&& (255 : Int32)) (p3 &&& (255 : Int32)) (p4 &&& (255 : Int32)) (((p6 &&& (2147483647 : Int32)) % (6 : Int32)) - (1 : Int32)))] [(.int 0)]))
      exact absurd ((((if_pos hst).trans ((if_neg hb23).trans rfl)) : lawF p1 p2 p3 p4 p5 p6 = (0 : Int32)).symm.trans (lawT p1 p2 p3 p4 p5 p6)) (by decide)
  · rw [own_bit p5 hst]
    show Goes p e below QQ (s₁.setTop (mkF m 6 #[iv p1, iv p2, iv p3, iv p4, iv p5, iv p6, iv 1, .unset, .unset, .unset, .unset] []))
    refine Goes.on (fun t k => XS.iload X0.here hx rfl (hb hby at_6) rfl k) ?_
    show Goes p e below QQ (s₁.setTop (mkF m 8 #[iv p1, iv p2, iv p3, iv p4, iv p5, iv p6, iv 1, .unset, .unset, .unset, .unset] [(.int p6)]))
    refine Goes.on (fun t k => X0.ldcInt hx hown (mvT hZ (hw _ (List.mem_of_getElem? (i := 0) rfl))) (g := (mkF m 8 #[iv p1, iv p2, iv p3, iv p4, iv p5, iv p6, iv 1, .unset, .unset, .unset, .unset] [(.int p6)])) rfl (hb hby at_8) t k) ?_
    show Goes p e below QQ (s₁.setTop (mkF m 10 #[iv p1, iv p2, iv p3, iv p4, iv p5, iv p6, iv 1, .unset, .unset, .unset, .unset] [(.int 2147483647), (.int p6)]))
    refine Goes.on (fun t k => XS.iand X0.here hx rfl (hb hby at_10) rfl k) ?_
    show Goes p e below QQ (s₁.setTop (mkF m 11 #[iv p1, iv p2, iv p3, iv p4, iv p5, iv p6, iv 1, .unset, .unset, .unset, .unset] [(.int (p6 &&& (2147483647 : Int32)))]))
    refine Goes.on (fun t k => XS.bipush X0.here hx rfl (hb hby at_11) k) ?_
    show Goes p e below QQ (s₁.setTop (mkF m 13 #[iv p1, iv p2, iv p3, iv p4, iv p5, iv p6, iv 1, .unset, .unset, .unset, .unset] [(.int 6), (.int (p6 &&& (2147483647 : Int32)))]))
    refine Goes.on (fun t k => iremM X0 hx rfl (hb hby at_13) rfl (by decide) k) ?_
    show Goes p e below QQ (s₁.setTop (mkF m 14 #[iv p1, iv p2, iv p3, iv p4, iv p5, iv p6, iv 1, .unset, .unset, .unset, .unset] [(.int ((p6 &&& (2147483647 : Int32)) % (6 : Int32)))]))
    refine Goes.on (fun t k => XS.iconst X0.here hx rfl (hb hby at_14) k) ?_
    show Goes p e below QQ (s₁.setTop (mkF m 15 #[iv p1, iv p2, iv p3, iv p4, iv p5, iv p6, iv 1, .unset, .unset, .unset, .unset] [(.int 1), (.int ((p6 &&& (2147483647 : Int32)) % (6 : Int32)))]))
    refine Goes.on (fun t k => XS.isub X0.here hx rfl (hb hby at_15) rfl k) ?_
    show Goes p e below QQ (s₁.setTop (mkF m 16 #[iv p1, iv p2, iv p3, iv p4, iv p5, iv p6, iv 1, .unset, .unset, .unset, .unset] [(.int (((p6 &&& (2147483647 : Int32)) % (6 : Int32)) - (1 : Int32)))]))
    refine Goes.on (fun t k => XS.istore X0.here hx rfl (hb hby at_16) rfl (l' := #[iv p1, iv p2, iv p3, iv p4, iv p5, iv p6, iv 1, iv (((p6 &&& (2147483647 : Int32)) % (6 : Int32)) - (1 : Int32)), .unset, .unset, .unset]) rfl k) ?_
    show Goes p e below QQ (s₁.setTop (mkF m 18 #[iv p1, iv p2, iv p3, iv p4, iv p5, iv p6, iv 1, iv (((p6 &&& (2147483647 : Int32)) % (6 : Int32)) - (1 : Int32)), .unset, .unset, .unset] []))
    refine Goes.on (fun t k => XS.iload X0.here hx rfl (hb hby at_18) rfl k) ?_
    show Goes p e below QQ (s₁.setTop (mkF m 20 #[iv p1, iv p2, iv p3, iv p4, iv p5, iv p6, iv 1, iv (((p6 &&& (2147483647 : Int32)) % (6 : Int32)) - (1 : Int32)), .unset, .unset, .unset] [(.int 1)]))
    refine Goes.on (fun t k => XS.iload X0.here hx rfl (hb hby at_20) rfl k) ?_
    show Goes p e below QQ (s₁.setTop (mkF m 22 #[iv p1, iv p2, iv p3, iv p4, iv p5, iv p6, iv 1, iv (((p6 &&& (2147483647 : Int32)) % (6 : Int32)) - (1 : Int32)), .unset, .unset, .unset] [(.int (((p6 &&& (2147483647 : Int32)) % (6 : Int32)) - (1 : Int32))), (.int 1)]))
    refine Goes.on (fun t k => XS.iadd X0.here hx rfl (hb hby at_22) rfl k) ?_
    show Goes p e below QQ (s₁.setTop (mkF m 23 #[iv p1, iv p2, iv p3, iv p4, iv p5, iv p6, iv 1, iv (((p6 &&& (2147483647 : Int32)) % (6 : Int32)) - (1 : Int32)), .unset, .unset, .unset] [(.int ((1 : Int32) + (((p6 &&& (2147483647 : Int32)) % (6 : Int32)) - (1 : Int32))))]))
    refine Goes.on (fun t k => XS.istore X0.here hx rfl (hb hby at_23) rfl (l' := #[iv p1, iv p2, iv p3, iv p4, iv p5, iv p6, iv 1, iv (((p6 &&& (2147483647 : Int32)) % (6 : Int32)) - (1 : Int32)), iv ((1 : Int32) + (((p6 &&& (2147483647 : Int32)) % (6 : Int32)) - (1 : Int32))), .unset, .unset]) rfl k) ?_
    show Goes p e below QQ (s₁.setTop (mkF m 25 #[iv p1, iv p2, iv p3, iv p4, iv p5, iv p6, iv 1, iv (((p6 &&& (2147483647 : Int32)) % (6 : Int32)) - (1 : Int32)), iv ((1 : Int32) + (((p6 &&& (2147483647 : Int32)) % (6 : Int32)) - (1 : Int32))), .unset, .unset] []))
    refine Goes.on (fun t k => XS.bipush X0.here hx rfl (hb hby at_25) k) ?_
    show Goes p e below QQ (s₁.setTop (mkF m 27 #[iv p1, iv p2, iv p3, iv p4, iv p5, iv p6, iv 1, iv (((p6 &&& (2147483647 : Int32)) % (6 : Int32)) - (1 : Int32)), iv ((1 : Int32) + (((p6 &&& (2147483647 : Int32)) % (6 : Int32)) - (1 : Int32))), .unset, .unset] [(.int 6)]))
    obtain ⟨T24, h24, k24, X24, e24, E24, A24, st24⟩ := newP X0 hx hZ (hw _ (List.mem_of_getElem? (i := 1) rfl)) e0 (g := (mkF m 27 #[iv p1, iv p2, iv p3, iv p4, iv p5, iv p6, iv 1, iv (((p6 &&& (2147483647 : Int32)) % (6 : Int32)) - (1 : Int32)), iv ((1 : Int32) + (((p6 &&& (2147483647 : Int32)) % (6 : Int32)) - (1 : Int32))), .unset, .unset] [(.int 6)])) rfl (hb hby at_27) rfl (by decide) (cap := 6) (by decide) (by decide) (by decide) (by decide)
    obtain ⟨b24, g24⟩ : ∃ z, z = h0.size := ⟨_, rfl⟩
    rw [← g24] at A24 st24
    have sz_b24 : h0.size ≤ b24 := Nat.le_trans K0.1 (Nat.le_of_eq g24.symm)
    have g_b24 : n0 ≤ b24 := Nat.le_trans Z0 sz_b24
    have K24 := K0.ext E24
    have V_25 : Arv Z h24 b24 k24 .byte (6 : Int32) [(.int 0), (.int 0), (.int 0), (.int 0), (.int 0), (.int 0)] (.int 0) := (Arv.new A24 (by decide)).pad (pad_rep [] (.int 0) 6)
    refine Goes.on (fun t k => st24 t k) ?_
    show Goes p e below QQ (T24.setTop (mkF m 29 #[iv p1, iv p2, iv p3, iv p4, iv p5, iv p6, iv 1, iv (((p6 &&& (2147483647 : Int32)) % (6 : Int32)) - (1 : Int32)), iv ((1 : Int32) + (((p6 &&& (2147483647 : Int32)) % (6 : Int32)) - (1 : Int32))), .unset, .unset] [(.ref b24)]))
    refine Goes.on (fun t k => XS.astore X24.here hx rfl (hb hby at_29) rfl rfl (l' := #[iv p1, iv p2, iv p3, iv p4, iv p5, iv p6, iv 1, iv (((p6 &&& (2147483647 : Int32)) % (6 : Int32)) - (1 : Int32)), iv ((1 : Int32) + (((p6 &&& (2147483647 : Int32)) % (6 : Int32)) - (1 : Int32))), rv b24, .unset]) rfl k) ?_
    show Goes p e below QQ (T24.setTop (mkF m 31 #[iv p1, iv p2, iv p3, iv p4, iv p5, iv p6, iv 1, iv (((p6 &&& (2147483647 : Int32)) % (6 : Int32)) - (1 : Int32)), iv ((1 : Int32) + (((p6 &&& (2147483647 : Int32)) % (6 : Int32)) - (1 : Int32))), rv b24, .unset] []))
    refine Goes.on (fun t k => XS.aload X24.here hx rfl (hb hby at_31) rfl rfl k) ?_
    show Goes p e below QQ (T24.setTop (mkF m 33 #[iv p1, iv p2, iv p3, iv p4, iv p5, iv p6, iv 1, iv (((p6 &&& (2147483647 : Int32)) % (6 : Int32)) - (1 : Int32)), iv ((1 : Int32) + (((p6 &&& (2147483647 : Int32)) % (6 : Int32)) - (1 : Int32))), rv b24, .unset] [(.ref b24)]))
    refine Goes.on (fun t k => XS.iconst X24.here hx rfl (hb hby at_33) k) ?_
    show Goes p e below QQ (T24.setTop (mkF m 34 #[iv p1, iv p2, iv p3, iv p4, iv p5, iv p6, iv 1, iv (((p6 &&& (2147483647 : Int32)) % (6 : Int32)) - (1 : Int32)), iv ((1 : Int32) + (((p6 &&& (2147483647 : Int32)) % (6 : Int32)) - (1 : Int32))), rv b24, .unset] [(.int 0), (.ref b24)]))
    refine Goes.on (fun t k => XS.iloadN X24.here hx rfl (hb hby at_34) rfl k) ?_
    show Goes p e below QQ (T24.setTop (mkF m 35 #[iv p1, iv p2, iv p3, iv p4, iv p5, iv p6, iv 1, iv (((p6 &&& (2147483647 : Int32)) % (6 : Int32)) - (1 : Int32)), iv ((1 : Int32) + (((p6 &&& (2147483647 : Int32)) % (6 : Int32)) - (1 : Int32))), rv b24, .unset] [(.int p4), (.int 0), (.ref b24)]))
    refine Goes.on (fun t k => XS.i2b X24.here hx rfl (hb hby at_35) rfl k) ?_
    show Goes p e below QQ (T24.setTop (mkF m 36 #[iv p1, iv p2, iv p3, iv p4, iv p5, iv p6, iv 1, iv (((p6 &&& (2147483647 : Int32)) % (6 : Int32)) - (1 : Int32)), iv ((1 : Int32) + (((p6 &&& (2147483647 : Int32)) % (6 : Int32)) - (1 : Int32))), rv b24, .unset] [(.int p4.toInt8.toInt32), (.int 0), (.ref b24)]))
    obtain ⟨cl26, Ar26, aq26, aS26, aN26, aH26, aG26⟩ := id V_25
    have hin26 := inb_of (j := (0 : Int32)) aS26 ⟨by decide, by decide⟩
    obtain ⟨T27, h27, X27, e27, W27, st27⟩ := stB X24 hx hZ e24 Ar26 (j := (0 : Int32)) hin26 (g := (mkF m 36 #[iv p1, iv p2, iv p3, iv p4, iv p5, iv p6, iv 1, iv (((p6 &&& (2147483647 : Int32)) % (6 : Int32)) - (1 : Int32)), iv ((1 : Int32) + (((p6 &&& (2147483647 : Int32)) % (6 : Int32)) - (1 : Int32))), rv b24, .unset] [(.int p4.toInt8.toInt32), (.int 0), (.ref b24)])) rfl rfl (hb hby at_36)
    have K27 := K24.wr W27 (Or.inr sz_b24)
    have N27 := Fr.snoc X27 N0 g_b24
    have V_28 : Arv Z h27 b24 k24 .byte (6 : Int32) [(.int p4.toInt8.toInt32.toInt8.toInt32), (.int 0), (.int 0), (.int 0), (.int 0), (.int 0)] (.int 0) := Arv.set Ar26 aq26 aS26 aN26 aH26 aG26 (fits_nar_byte _) W27 0 rfl (Nat.le_of_ble_eq_true rfl)
    refine Goes.on (fun t k => st27 t k) ?_
    show Goes p e below QQ (T27.setTop (mkF m 37 #[iv p1, iv p2, iv p3, iv p4, iv p5, iv p6, iv 1, iv (((p6 &&& (2147483647 : Int32)) % (6 : Int32)) - (1 : Int32)), iv ((1 : Int32) + (((p6 &&& (2147483647 : Int32)) % (6 : Int32)) - (1 : Int32))), rv b24, .unset] []))
    refine Goes.on (fun t k => XS.aload X27.here hx rfl (hb hby at_37) rfl rfl k) ?_
    show Goes p e below QQ (T27.setTop (mkF m 39 #[iv p1, iv p2, iv p3, iv p4, iv p5, iv p6, iv 1, iv (((p6 &&& (2147483647 : Int32)) % (6 : Int32)) - (1 : Int32)), iv ((1 : Int32) + (((p6 &&& (2147483647 : Int32)) % (6 : Int32)) - (1 : Int32))), rv b24, .unset] [(.ref b24)]))
    refine Goes.on (fun t k => XS.iconst X27.here hx rfl (hb hby at_39) k) ?_
    show Goes p e below QQ (T27.setTop (mkF m 40 #[iv p1, iv p2, iv p3, iv p4, iv p5, iv p6, iv 1, iv (((p6 &&& (2147483647 : Int32)) % (6 : Int32)) - (1 : Int32)), iv ((1 : Int32) + (((p6 &&& (2147483647 : Int32)) % (6 : Int32)) - (1 : Int32))), rv b24, .unset] [(.int 5), (.ref b24)]))
    refine Goes.on (fun t k => XS.iloadN X27.here hx rfl (hb hby at_40) rfl k) ?_
    show Goes p e below QQ (T27.setTop (mkF m 41 #[iv p1, iv p2, iv p3, iv p4, iv p5, iv p6, iv 1, iv (((p6 &&& (2147483647 : Int32)) % (6 : Int32)) - (1 : Int32)), iv ((1 : Int32) + (((p6 &&& (2147483647 : Int32)) % (6 : Int32)) - (1 : Int32))), rv b24, .unset] [(.int p2), (.int 5), (.ref b24)]))
    refine Goes.on (fun t k => XS.i2b X27.here hx rfl (hb hby at_41) rfl k) ?_
    show Goes p e below QQ (T27.setTop (mkF m 42 #[iv p1, iv p2, iv p3, iv p4, iv p5, iv p6, iv 1, iv (((p6 &&& (2147483647 : Int32)) % (6 : Int32)) - (1 : Int32)), iv ((1 : Int32) + (((p6 &&& (2147483647 : Int32)) % (6 : Int32)) - (1 : Int32))), rv b24, .unset] [(.int p2.toInt8.toInt32), (.int 5), (.ref b24)]))
    obtain ⟨cl29, Ar29, aq29, aS29, aN29, aH29, aG29⟩ := id V_28
    have hin29 := inb_of (j := (5 : Int32)) aS29 ⟨by decide, by decide⟩
    obtain ⟨T30, h30, X30, e30, W30, st30⟩ := stB X27 hx hZ e27 Ar29 (j := (5 : Int32)) hin29 (g := (mkF m 42 #[iv p1, iv p2, iv p3, iv p4, iv p5, iv p6, iv 1, iv (((p6 &&& (2147483647 : Int32)) % (6 : Int32)) - (1 : Int32)), iv ((1 : Int32) + (((p6 &&& (2147483647 : Int32)) % (6 : Int32)) - (1 : Int32))), rv b24, .unset] [(.int p2.toInt8.toInt32), (.int 5), (.ref b24)])) rfl rfl (hb hby at_42)
    have K30 := K27.wr W30 (Or.inr sz_b24)
    have N30 := Fr.snoc X30 N27 g_b24
    have V_31 : Arv Z h30 b24 k24 .byte (6 : Int32) [(.int p4.toInt8.toInt32.toInt8.toInt32), (.int 0), (.int 0), (.int 0), (.int 0), (.int p2.toInt8.toInt32.toInt8.toInt32)] (.int 0) := Arv.set Ar29 aq29 aS29 aN29 aH29 aG29 (fits_nar_byte _) W30 5 rfl (Nat.le_of_ble_eq_true rfl)
    refine Goes.on (fun t k => st30 t k) ?_
    show Goes p e below QQ (T30.setTop (mkF m 43 #[iv p1, iv p2, iv p3, iv p4, iv p5, iv p6, iv 1, iv (((p6 &&& (2147483647 : Int32)) % (6 : Int32)) - (1 : Int32)), iv ((1 : Int32) + (((p6 &&& (2147483647 : Int32)) % (6 : Int32)) - (1 : Int32))), rv b24, .unset] []))
    refine Goes.on (fun t k => XS.aload X30.here hx rfl (hb hby at_43) rfl rfl k) ?_
    show Goes p e below QQ (T30.setTop (mkF m 45 #[iv p1, iv p2, iv p3, iv p4, iv p5, iv p6, iv 1, iv (((p6 &&& (2147483647 : Int32)) % (6 : Int32)) - (1 : Int32)), iv ((1 : Int32) + (((p6 &&& (2147483647 : Int32)) % (6 : Int32)) - (1 : Int32))), rv b24, .unset] [(.ref b24)]))
    refine Goes.on (fun t k => XS.iload X30.here hx rfl (hb hby at_45) rfl k) ?_
    show Goes p e below QQ (T30.setTop (mkF m 47 #[iv p1, iv p2, iv p3, iv p4, iv p5, iv p6, iv 1, iv (((p6 &&& (2147483647 : Int32)) % (6 : Int32)) - (1 : Int32)), iv ((1 : Int32) + (((p6 &&& (2147483647 : Int32)) % (6 : Int32)) - (1 : Int32))), rv b24, .unset] [(.int 1), (.ref b24)]))
    refine Goes.on (fun t k => XS.iloadN X30.here hx rfl (hb hby at_47) rfl k) ?_
    show Goes p e below QQ (T30.setTop (mkF m 48 #[iv p1, iv p2, iv p3, iv p4, iv p5, iv p6, iv 1, iv (((p6 &&& (2147483647 : Int32)) % (6 : Int32)) - (1 : Int32)), iv ((1 : Int32) + (((p6 &&& (2147483647 : Int32)) % (6 : Int32)) - (1 : Int32))), rv b24, .unset] [(.int p1), (.int 1), (.ref b24)]))
    refine Goes.on (fun t k => XS.i2b X30.here hx rfl (hb hby at_48) rfl k) ?_
    show Goes p e below QQ (T30.setTop (mkF m 49 #[iv p1, iv p2, iv p3, iv p4, iv p5, iv p6, iv 1, iv (((p6 &&& (2147483647 : Int32)) % (6 : Int32)) - (1 : Int32)), iv ((1 : Int32) + (((p6 &&& (2147483647 : Int32)) % (6 : Int32)) - (1 : Int32))), rv b24, .unset] [(.int p1.toInt8.toInt32), (.int 1), (.ref b24)]))
    obtain ⟨cl32, Ar32, aq32, aS32, aN32, aH32, aG32⟩ := id V_31
    have hin32 := inb_of (j := (1 : Int32)) aS32 ⟨by decide, by decide⟩
    obtain ⟨T33, h33, X33, e33, W33, st33⟩ := stB X30 hx hZ e30 Ar32 (j := (1 : Int32)) hin32 (g := (mkF m 49 #[iv p1, iv p2, iv p3, iv p4, iv p5, iv p6, iv 1, iv (((p6 &&& (2147483647 : Int32)) % (6 : Int32)) - (1 : Int32)), iv ((1 : Int32) + (((p6 &&& (2147483647 : Int32)) % (6 : Int32)) - (1 : Int32))), rv b24, .unset] [(.int p1.toInt8.toInt32), (.int 1), (.ref b24)])) rfl rfl (hb hby at_49)
    have K33 := K30.wr W33 (Or.inr sz_b24)
    have N33 := Fr.snoc X33 N30 g_b24
    have V_34 : Arv Z h33 b24 k24 .byte (6 : Int32) [(.int p4.toInt8.toInt32.toInt8.toInt32), (.int p1.toInt8.toInt32.toInt8.toInt32), (.int 0), (.int 0), (.int 0), (.int p2.toInt8.toInt32.toInt8.toInt32)] (.int 0) := Arv.set Ar32 aq32 aS32 aN32 aH32 aG32 (fits_nar_byte _) W33 1 rfl (Nat.le_of_ble_eq_true rfl)
    refine Goes.on (fun t k => st33 t k) ?_
    show Goes p e below QQ (T33.setTop (mkF m 50 #[iv p1, iv p2, iv p3, iv p4, iv p5, iv p6, iv 1, iv (((p6 &&& (2147483647 : Int32)) % (6 : Int32)) - (1 : Int32)), iv ((1 : Int32) + (((p6 &&& (2147483647 : Int32)) % (6 : Int32)) - (1 : Int32))), rv b24, .unset] []))
    refine Goes.on (fun t k => XS.aload X33.here hx rfl (hb hby at_50) rfl rfl k) ?_
    show Goes p e below QQ (T33.setTop (mkF m 52 #[iv p1, iv p2, iv p3, iv p4, iv p5, iv p6, iv 1, iv (((p6 &&& (2147483647 : Int32)) % (6 : Int32)) - (1 : Int32)), iv ((1 : Int32) + (((p6 &&& (2147483647 : Int32)) % (6 : Int32)) - (1 : Int32))), rv b24, .unset] [(.ref b24)]))
    refine Goes.on (fun t k => XS.iload X33.here hx rfl (hb hby at_52) rfl k) ?_
    show Goes p e below QQ (T33.setTop (mkF m 54 #[iv p1, iv p2, iv p3, iv p4, iv p5, iv p6, iv 1, iv (((p6 &&& (2147483647 : Int32)) % (6 : Int32)) - (1 : Int32)), iv ((1 : Int32) + (((p6 &&& (2147483647 : Int32)) % (6 : Int32)) - (1 : Int32))), rv b24, .unset] [(.int 1), (.ref b24)]))
    refine Goes.on (fun t k => XS.iconst X33.here hx rfl (hb hby at_54) k) ?_
    show Goes p e below QQ (T33.setTop (mkF m 55 #[iv p1, iv p2, iv p3, iv p4, iv p5, iv p6, iv 1, iv (((p6 &&& (2147483647 : Int32)) % (6 : Int32)) - (1 : Int32)), iv ((1 : Int32) + (((p6 &&& (2147483647 : Int32)) % (6 : Int32)) - (1 : Int32))), rv b24, .unset] [(.int 1), (.int 1), (.ref b24)]))
    refine Goes.on (fun t k => XS.iadd X33.here hx rfl (hb hby at_55) rfl k) ?_
    show Goes p e below QQ (T33.setTop (mkF m 56 #[iv p1, iv p2, iv p3, iv p4, iv p5, iv p6, iv 1, iv (((p6 &&& (2147483647 : Int32)) % (6 : Int32)) - (1 : Int32)), iv ((1 : Int32) + (((p6 &&& (2147483647 : Int32)) % (6 : Int32)) - (1 : Int32))), rv b24, .unset] [(.int ((1 : Int32) + (1 : Int32))), (.ref b24)]))
    rw [(by decide : ((1 : Int32) + (1 : Int32)) = (2 : Int32))]
    show Goes p e below QQ (T33.setTop (mkF m 56 #[iv p1, iv p2, iv p3, iv p4, iv p5, iv p6, iv 1, iv (((p6 &&& (2147483647 : Int32)) % (6 : Int32)) - (1 : Int32)), iv ((1 : Int32) + (((p6 &&& (2147483647 : Int32)) % (6 : Int32)) - (1 : Int32))), rv b24, .unset] [(.int 2), (.ref b24)]))
    refine Goes.on (fun t k => XS.iloadN X33.here hx rfl (hb hby at_56) rfl k) ?_
    show Goes p e below QQ (T33.setTop (mkF m 57 #[iv p1, iv p2, iv p3, iv p4, iv p5, iv p6, iv 1, iv (((p6 &&& (2147483647 : Int32)) % (6 : Int32)) - (1 : Int32)), iv ((1 : Int32) + (((p6 &&& (2147483647 : Int32)) % (6 : Int32)) - (1 : Int32))), rv b24, .unset] [(.int p2), (.int 2), (.ref b24)]))
    refine Goes.on (fun t k => XS.i2b X33.here hx rfl (hb hby at_57) rfl k) ?_
    show Goes p e below QQ (T33.setTop (mkF m 58 #[iv p1, iv p2, iv p3, iv p4, iv p5, iv p6, iv 1, iv (((p6 &&& (2147483647 : Int32)) % (6 : Int32)) - (1 : Int32)), iv ((1 : Int32) + (((p6 &&& (2147483647 : Int32)) % (6 : Int32)) - (1 : Int32))), rv b24, .unset] [(.int p2.toInt8.toInt32), (.int 2), (.ref b24)]))
    obtain ⟨cl35, Ar35, aq35, aS35, aN35, aH35, aG35⟩ := id V_34
    have hin35 := inb_of (j := (2 : Int32)) aS35 ⟨by decide, by decide⟩
    obtain ⟨T36, h36, X36, e36, W36, st36⟩ := stB X33 hx hZ e33 Ar35 (j := (2 : Int32)) hin35 (g := (mkF m 58 #[iv p1, iv p2, iv p3, iv p4, iv p5, iv p6, iv 1, iv (((p6 &&& (2147483647 : Int32)) % (6 : Int32)) - (1 : Int32)), iv ((1 : Int32) + (((p6 &&& (2147483647 : Int32)) % (6 : Int32)) - (1 : Int32))), rv b24, .unset] [(.int p2.toInt8.toInt32), (.int 2), (.ref b24)])) rfl rfl (hb hby at_58)
    have K36 := K33.wr W36 (Or.inr sz_b24)
    have N36 := Fr.snoc X36 N33 g_b24
    have V_37 : Arv Z h36 b24 k24 .byte (6 : Int32) [(.int p4.toInt8.toInt32.toInt8.toInt32), (.int p1.toInt8.toInt32.toInt8.toInt32), (.int p2.toInt8.toInt32.toInt8.toInt32), (.int 0), (.int 0), (.int p2.toInt8.toInt32.toInt8.toInt32)] (.int 0) := Arv.set Ar35 aq35 aS35 aN35 aH35 aG35 (fits_nar_byte _) W36 2 rfl (Nat.le_of_ble_eq_true rfl)
    refine Goes.on (fun t k => st36 t k) ?_
    show Goes p e below QQ (T36.setTop (mkF m 59 #[iv p1, iv p2, iv p3, iv p4, iv p5, iv p6, iv 1, iv (((p6 &&& (2147483647 : Int32)) % (6 : Int32)) - (1 : Int32)), iv ((1 : Int32) + (((p6 &&& (2147483647 : Int32)) % (6 : Int32)) - (1 : Int32))), rv b24, .unset] []))
    refine Goes.on (fun t k => XS.aload X36.here hx rfl (hb hby at_59) rfl rfl k) ?_
    show Goes p e below QQ (T36.setTop (mkF m 61 #[iv p1, iv p2, iv p3, iv p4, iv p5, iv p6, iv 1, iv (((p6 &&& (2147483647 : Int32)) % (6 : Int32)) - (1 : Int32)), iv ((1 : Int32) + (((p6 &&& (2147483647 : Int32)) % (6 : Int32)) - (1 : Int32))), rv b24, .unset] [(.ref b24)]))
    refine Goes.on (fun t k => XS.iload X36.here hx rfl (hb hby at_61) rfl k) ?_
    show Goes p e below QQ (T36.setTop (mkF m 63 #[iv p1, iv p2, iv p3, iv p4, iv p5, iv p6, iv 1, iv (((p6 &&& (2147483647 : Int32)) % (6 : Int32)) - (1 : Int32)), iv ((1 : Int32) + (((p6 &&& (2147483647 : Int32)) % (6 : Int32)) - (1 : Int32))), rv b24, .unset] [(.int 1), (.ref b24)]))
    refine Goes.on (fun t k => XS.iconst X36.here hx rfl (hb hby at_63) k) ?_
    show Goes p e below QQ (T36.setTop (mkF m 64 #[iv p1, iv p2, iv p3, iv p4, iv p5, iv p6, iv 1, iv (((p6 &&& (2147483647 : Int32)) % (6 : Int32)) - (1 : Int32)), iv ((1 : Int32) + (((p6 &&& (2147483647 : Int32)) % (6 : Int32)) - (1 : Int32))), rv b24, .unset] [(.int 2), (.int 1), (.ref b24)]))
    refine Goes.on (fun t k => XS.iadd X36.here hx rfl (hb hby at_64) rfl k) ?_
    show Goes p e below QQ (T36.setTop (mkF m 65 #[iv p1, iv p2, iv p3, iv p4, iv p5, iv p6, iv 1, iv (((p6 &&& (2147483647 : Int32)) % (6 : Int32)) - (1 : Int32)), iv ((1 : Int32) + (((p6 &&& (2147483647 : Int32)) % (6 : Int32)) - (1 : Int32))), rv b24, .unset] [(.int ((1 : Int32) + (2 : Int32))), (.ref b24)]))
    rw [(by decide : ((1 : Int32) + (2 : Int32)) = (3 : Int32))]
    show Goes p e below QQ (T36.setTop (mkF m 65 #[iv p1, iv p2, iv p3, iv p4, iv p5, iv p6, iv 1, iv (((p6 &&& (2147483647 : Int32)) % (6 : Int32)) - (1 : Int32)), iv ((1 : Int32) + (((p6 &&& (2147483647 : Int32)) % (6 : Int32)) - (1 : Int32))), rv b24, .unset] [(.int 3), (.ref b24)]))
    refine Goes.on (fun t k => XS.iloadN X36.here hx rfl (hb hby at_65) rfl k) ?_
    show Goes p e below QQ (T36.setTop (mkF m 66 #[iv p1, iv p2, iv p3, iv p4, iv p5, iv p6, iv 1, iv (((p6 &&& (2147483647 : Int32)) % (6 : Int32)) - (1 : Int32)), iv ((1 : Int32) + (((p6 &&& (2147483647 : Int32)) % (6 : Int32)) - (1 : Int32))), rv b24, .unset] [(.int p3), (.int 3), (.ref b24)]))
    refine Goes.on (fun t k => XS.i2b X36.here hx rfl (hb hby at_66) rfl k) ?_
    show Goes p e below QQ (T36.setTop (mkF m 67 #[iv p1, iv p2, iv p3, iv p4, iv p5, iv p6, iv 1, iv (((p6 &&& (2147483647 : Int32)) % (6 : Int32)) - (1 : Int32)), iv ((1 : Int32) + (((p6 &&& (2147483647 : Int32)) % (6 : Int32)) - (1 : Int32))), rv b24, .unset] [(.int p3.toInt8.toInt32), (.int 3), (.ref b24)]))
    obtain ⟨cl38, Ar38, aq38, aS38, aN38, aH38, aG38⟩ := id V_37
    have hin38 := inb_of (j := (3 : Int32)) aS38 ⟨by decide, by decide⟩
    obtain ⟨T39, h39, X39, e39, W39, st39⟩ := stB X36 hx hZ e36 Ar38 (j := (3 : Int32)) hin38 (g := (mkF m 67 #[iv p1, iv p2, iv p3, iv p4, iv p5, iv p6, iv 1, iv (((p6 &&& (2147483647 : Int32)) % (6 : Int32)) - (1 : Int32)), iv ((1 : Int32) + (((p6 &&& (2147483647 : Int32)) % (6 : Int32)) - (1 : Int32))), rv b24, .unset] [(.int p3.toInt8.toInt32), (.int 3), (.ref b24)])) rfl rfl (hb hby at_67)
    have K39 := K36.wr W39 (Or.inr sz_b24)
    have N39 := Fr.snoc X39 N36 g_b24
    have V_40 : Arv Z h39 b24 k24 .byte (6 : Int32) [(.int p4.toInt8.toInt32.toInt8.toInt32), (.int p1.toInt8.toInt32.toInt8.toInt32), (.int p2.toInt8.toInt32.toInt8.toInt32), (.int p3.toInt8.toInt32.toInt8.toInt32), (.int 0), (.int p2.toInt8.toInt32.toInt8.toInt32)] (.int 0) := Arv.set Ar38 aq38 aS38 aN38 aH38 aG38 (fits_nar_byte _) W39 3 rfl (Nat.le_of_ble_eq_true rfl)
    refine Goes.on (fun t k => st39 t k) ?_
    show Goes p e below QQ (T39.setTop (mkF m 68 #[iv p1, iv p2, iv p3, iv p4, iv p5, iv p6, iv 1, iv (((p6 &&& (2147483647 : Int32)) % (6 : Int32)) - (1 : Int32)), iv ((1 : Int32) + (((p6 &&& (2147483647 : Int32)) % (6 : Int32)) - (1 : Int32))), rv b24, .unset] []))
    refine Goes.on (fun t k => XS.aload X39.here hx rfl (hb hby at_68) rfl rfl k) ?_
    show Goes p e below QQ (T39.setTop (mkF m 70 #[iv p1, iv p2, iv p3, iv p4, iv p5, iv p6, iv 1, iv (((p6 &&& (2147483647 : Int32)) % (6 : Int32)) - (1 : Int32)), iv ((1 : Int32) + (((p6 &&& (2147483647 : Int32)) % (6 : Int32)) - (1 : Int32))), rv b24, .unset] [(.ref b24)]))
    refine Goes.on (fun t k => XS.iload X39.here hx rfl (hb hby at_70) rfl k) ?_
    show Goes p e below QQ (T39.setTop (mkF m 72 #[iv p1, iv p2, iv p3, iv p4, iv p5, iv p6, iv 1, iv (((p6 &&& (2147483647 : Int32)) % (6 : Int32)) - (1 : Int32)), iv ((1 : Int32) + (((p6 &&& (2147483647 : Int32)) % (6 : Int32)) - (1 : Int32))), rv b24, .unset] [(.int 1), (.ref b24)]))
    refine Goes.on (fun t k => XS.iconst X39.here hx rfl (hb hby at_72) k) ?_
    show Goes p e below QQ (T39.setTop (mkF m 73 #[iv p1, iv p2, iv p3, iv p4, iv p5, iv p6, iv 1, iv (((p6 &&& (2147483647 : Int32)) % (6 : Int32)) - (1 : Int32)), iv ((1 : Int32) + (((p6 &&& (2147483647 : Int32)) % (6 : Int32)) - (1 : Int32))), rv b24, .unset] [(.int 3), (.int 1), (.ref b24)]))
    refine Goes.on (fun t k => XS.iadd X39.here hx rfl (hb hby at_73) rfl k) ?_
    show Goes p e below QQ (T39.setTop (mkF m 74 #[iv p1, iv p2, iv p3, iv p4, iv p5, iv p6, iv 1, iv (((p6 &&& (2147483647 : Int32)) % (6 : Int32)) - (1 : Int32)), iv ((1 : Int32) + (((p6 &&& (2147483647 : Int32)) % (6 : Int32)) - (1 : Int32))), rv b24, .unset] [(.int ((1 : Int32) + (3 : Int32))), (.ref b24)]))
    rw [(by decide : ((1 : Int32) + (3 : Int32)) = (4 : Int32))]
    show Goes p e below QQ (T39.setTop (mkF m 74 #[iv p1, iv p2, iv p3, iv p4, iv p5, iv p6, iv 1, iv (((p6 &&& (2147483647 : Int32)) % (6 : Int32)) - (1 : Int32)), iv ((1 : Int32) + (((p6 &&& (2147483647 : Int32)) % (6 : Int32)) - (1 : Int32))), rv b24, .unset] [(.int 4), (.ref b24)]))
    refine Goes.on (fun t k => XS.iloadN X39.here hx rfl (hb hby at_74) rfl k) ?_
    show Goes p e below QQ (T39.setTop (mkF m 75 #[iv p1, iv p2, iv p3, iv p4, iv p5, iv p6, iv 1, iv (((p6 &&& (2147483647 : Int32)) % (6 : Int32)) - (1 : Int32)), iv ((1 : Int32) + (((p6 &&& (2147483647 : Int32)) % (6 : Int32)) - (1 : Int32))), rv b24, .unset] [(.int p4), (.int 4), (.ref b24)]))
    refine Goes.on (fun t k => XS.i2b X39.here hx rfl (hb hby at_75) rfl k) ?_
    show Goes p e below QQ (T39.setTop (mkF m 76 #[iv p1, iv p2, iv p3, iv p4, iv p5, iv p6, iv 1, iv (((p6 &&& (2147483647 : Int32)) % (6 : Int32)) - (1 : Int32)), iv ((1 : Int32) + (((p6 &&& (2147483647 : Int32)) % (6 : Int32)) - (1 : Int32))), rv b24, .unset] [(.int p4.toInt8.toInt32), (.int 4), (.ref b24)]))
    obtain ⟨cl41, Ar41, aq41, aS41, aN41, aH41, aG41⟩ := id V_40
    have hin41 := inb_of (j := (4 : Int32)) aS41 ⟨by decide, by decide⟩
    obtain ⟨T42, h42, X42, e42, W42, st42⟩ := stB X39 hx hZ e39 Ar41 (j := (4 : Int32)) hin41 (g := (mkF m 76 #[iv p1, iv p2, iv p3, iv p4, iv p5, iv p6, iv 1, iv (((p6 &&& (2147483647 : Int32)) % (6 : Int32)) - (1 : Int32)), iv ((1 : Int32) + (((p6 &&& (2147483647 : Int32)) % (6 : Int32)) - (1 : Int32))), rv b24, .unset] [(.int p4.toInt8.toInt32), (.int 4), (.ref b24)])) rfl rfl (hb hby at_76)
    have K42 := K39.wr W42 (Or.inr sz_b24)
    have N42 := Fr.snoc X42 N39 g_b24
    have V_43 : Arv Z h42 b24 k24 .byte (6 : Int32) [(.int p4.toInt8.toInt32.toInt8.toInt32), (.int p1.toInt8.toInt32.toInt8.toInt32), (.int p2.toInt8.toInt32.toInt8.toInt32), (.int p3.toInt8.toInt32.toInt8.toInt32), (.int p4.toInt8.toInt32.toInt8.toInt32), (.int p2.toInt8.toInt32.toInt8.toInt32)] (.int 0) := Arv.set Ar41 aq41 aS41 aN41 aH41 aG41 (fits_nar_byte _) W42 4 rfl (Nat.le_of_ble_eq_true rfl)
    refine Goes.on (fun t k => st42 t k) ?_
    show Goes p e below QQ (T42.setTop (mkF m 77 #[iv p1, iv p2, iv p3, iv p4, iv p5, iv p6, iv 1, iv (((p6 &&& (2147483647 : Int32)) % (6 : Int32)) - (1 : Int32)), iv ((1 : Int32) + (((p6 &&& (2147483647 : Int32)) % (6 : Int32)) - (1 : Int32))), rv b24, .unset] []))
    refine Goes.on (fun t k => XS.iloadN X42.here hx rfl (hb hby at_77) rfl k) ?_
    show Goes p e below QQ (T42.setTop (mkF m 78 #[iv p1, iv p2, iv p3, iv p4, iv p5, iv p6, iv 1, iv (((p6 &&& (2147483647 : Int32)) % (6 : Int32)) - (1 : Int32)), iv ((1 : Int32) + (((p6 &&& (2147483647 : Int32)) % (6 : Int32)) - (1 : Int32))), rv b24, .unset] [(.int p1)]))
    refine Goes.on (fun t k => XS.sipush X42.here hx rfl (hb hby at_78) k) ?_
    show Goes p e below QQ (T42.setTop (mkF m 81 #[iv p1, iv p2, iv p3, iv p4, iv p5, iv p6, iv 1, iv (((p6 &&& (2147483647 : Int32)) % (6 : Int32)) - (1 : Int32)), iv ((1 : Int32) + (((p6 &&& (2147483647 : Int32)) % (6 : Int32)) - (1 : Int32))), rv b24, .unset] [(.int 255), (.int p1)]))
    refine Goes.on (fun t k => XS.iand X42.here hx rfl (hb hby at_81) rfl k) ?_
    show Goes p e below QQ (T42.setTop (mkF m 82 #[iv p1, iv p2, iv p3, iv p4, iv p5, iv p6, iv 1, iv (((p6 &&& (2147483647 : Int32)) % (6 : Int32)) - (1 : Int32)), iv ((1 : Int32) + (((p6 &&& (2147483647 : Int32)) % (6 : Int32)) - (1 : Int32))), rv b24, .unset] [(.int (p1 &&& (255 : Int32)))]))
    refine Goes.on (fun t k => XS.iloadN X42.here hx rfl (hb hby at_82) rfl k) ?_
    show Goes p e below QQ (T42.setTop (mkF m 83 #[iv p1, iv p2, iv p3, iv p4, iv p5, iv p6, iv 1, iv (((p6 &&& (2147483647 : Int32)) % (6 : Int32)) - (1 : Int32)), iv ((1 : Int32) + (((p6 &&& (2147483647 : Int32)) % (6 : Int32)) - (1 : Int32))), rv b24, .unset] [(.int p2), (.int (p1 &&& (255 : Int32)))]))
    refine Goes.on (fun t k => XS.sipush X42.here hx rfl (hb hby at_83) k) ?_
    show Goes p e below QQ (T42.setTop (mkF m 86 #[iv p1, iv p2, iv p3, iv p4, iv p5, iv p6, iv 1, iv (((p6 &&& (2147483647 : Int32)) % (6 : Int32)) - (1 : Int32)), iv ((1 : Int32) + (((p6 &&& (2147483647 : Int32)) % (6 : Int32)) - (1 : Int32))), rv b24, .unset] [(.int 255), (.int p2), (.int (p1 &&& (255 : Int32)))]))
    refine Goes.on (fun t k => XS.iand X42.here hx rfl (hb hby at_86) rfl k) ?_
    show Goes p e below QQ (T42.setTop (mkF m 87 #[iv p1, iv p2, iv p3, iv p4, iv p5, iv p6, iv 1, iv (((p6 &&& (2147483647 : Int32)) % (6 : Int32)) - (1 : Int32)), iv ((1 : Int32) + (((p6 &&& (2147483647 : Int32)) % (6 : Int32)) - (1 : Int32))), rv b24, .unset] [(.int (p2 &&& (255 : Int32))), (.int (p1 &&& (255 : Int32)))]))
    refine Goes.on (fun t k => XS.iloadN X42.here hx rfl (hb hby at_87) rfl k) ?_
    show Goes p e below QQ (T42.setTop (mkF m 88 #[iv p1, iv p2, iv p3, iv p4, iv p5, iv p6, iv 1, iv (((p6 &&& (2147483647 : Int32)) % (6 : Int32)) - (1 : Int32)), iv ((1 : Int32) + (((p6 &&& (2147483647 : Int32)) % (6 : Int32)) - (1 : Int32))), rv b24, .unset] [(.int p3), (.int (p2 &&& (255 : Int32))), (.int (p1 &&& (255 : Int32)))]))
    refine Goes.on (fun t k => XS.sipush X42.here hx rfl (hb hby at_88) k) ?_
    show Goes p e below QQ (T42.setTop (mkF m 91 #[iv p1, iv p2, iv p3, iv p4, iv p5, iv p6, iv 1, iv (((p6 &&& (2147483647 : Int32)) % (6 : Int32)) - (1 : Int32)), iv ((1 : Int32) + (((p6 &&& (2147483647 : Int32)) % (6 : Int32)) - (1 : Int32))), rv b24, .unset] [(.int 255), (.int p3), (.int (p2 &&& (255 : Int32))), (.int (p1 &&& (255 : Int32)))]))
    refine Goes.on (fun t k => XS.iand X42.here hx rfl (hb hby at_91) rfl k) ?_
    show Goes p e below QQ (T42.setTop (mkF m 92 #[iv p1, iv p2, iv p3, iv p4, iv p5, iv p6, iv 1, iv (((p6 &&& (2147483647 : Int32)) % (6 : Int32)) - (1 : Int32)), iv ((1 : Int32) + (((p6 &&& (2147483647 : Int32)) % (6 : Int32)) - (1 : Int32))), rv b24, .unset] [(.int (p3 &&& (255 : Int32))), (.int (p2 &&& (255 : Int32))), (.int (p1 &&& (255 : Int32)))]))
    refine Goes.on (fun t k => XS.iloadN X42.here hx rfl (hb hby at_92) rfl k) ?_
    show Goes p e below QQ (T42.setTop (mkF m 93 #[iv p1, iv p2, iv p3, iv p4, iv p5, iv p6, iv 1, iv (((p6 &&& (2147483647 : Int32)) % (6 : Int32)) - (1 : Int32)), iv ((1 : Int32) + (((p6 &&& (2147483647 : Int32)) % (6 : Int32)) - (1 : Int32))), rv b24, .unset] [(.int p4), (.int (p3 &&& (255 : Int32))), (.int (p2 &&& (255 : Int32))), (.int (p1 &&& (255 : Int32)))]))
    refine Goes.on (fun t k => XS.sipush X42.here hx rfl (hb hby at_93) k) ?_
    show Goes p e below QQ (T42.setTop (mkF m 96 #[iv p1, iv p2, iv p3, iv p4, iv p5, iv p6, iv 1, iv (((p6 &&& (2147483647 : Int32)) % (6 : Int32)) - (1 : Int32)), iv ((1 : Int32) + (((p6 &&& (2147483647 : Int32)) % (6 : Int32)) - (1 : Int32))), rv b24, .unset] [(.int 255), (.int p4), (.int (p3 &&& (255 : Int32))), (.int (p2 &&& (255 : Int32))), (.int (p1 &&& (255 : Int32)))]))
    refine Goes.on (fun t k => XS.iand X42.here hx rfl (hb hby at_96) rfl k) ?_
    show Goes p e below QQ (T42.setTop (mkF m 97 #[iv p1, iv p2, iv p3, iv p4, iv p5, iv p6, iv 1, iv (((p6 &&& (2147483647 : Int32)) % (6 : Int32)) - (1 : Int32)), iv ((1 : Int32) + (((p6 &&& (2147483647 : Int32)) % (6 : Int32)) - (1 : Int32))), rv b24, .unset] [(.int (p4 &&& (255 : Int32))), (.int (p3 &&& (255 : Int32))), (.int (p2 &&& (255 : Int32))), (.int (p1 &&& (255 : Int32)))]))
    refine Goes.on (fun t k => XS.iload X42.here hx rfl (hb hby at_97) rfl k) ?_
    show Goes p e below QQ (T42.setTop (mkF m 99 #[iv p1, iv p2, iv p3, iv p4, iv p5, iv p6, iv 1, iv (((p6 &&& (2147483647 : Int32)) % (6 : Int32)) - (1 : Int32)), iv ((1 : Int32) + (((p6 &&& (2147483647 : Int32)) % (6 : Int32)) - (1 : Int32))), rv b24, .unset] [(.int (((p6 &&& (2147483647 : Int32)) % (6 : Int32)) - (1 : Int32))), (.int (p4 &&& (255 : Int32))), (.int (p3 &&& (255 : Int32))), (.int (p2 &&& (255 : Int32))), (.int (p1 &&& (255 : Int32)))]))
    obtain ⟨_, _, ⟨T44, L44, k44, n44⟩, -, X44, ⟨Lc44, hQ44, l44, y44, z44⟩, st44⟩ := Jvm.LawKit.callS X42 hx (y := (⟨"com/example/sober_links/soberlinks/io/Utf8SequenceLengthPinLaw", "expected", "(IIIII)I"⟩ : MethodName)) hown (mvT hZ (hw _ (List.mem_of_getElem? (i := 2) rfl))) (mvT hZ (hw _ (List.mem_of_getElem? (i := 3) rfl))) (mvT hZ (hw _ (List.mem_of_getElem? (i := 4) rfl))) (mvT hZ (hw _ (List.mem_of_getElem? (i := 5) rfl))) (by decide) (backOf (W := 0) (rm2 l Z a0 hw [] (p1 &&& (255 : Int32)) (p2 &&& (255 : Int32)) (p3 &&& (255 : Int32)) (p4 &&& (255 : Int32)) (((p6 &&& (2147483647 : Int32)) % (6 : Int32)) - (1 : Int32)) h42 n0 (Nat.le_trans Z0 K42.1) ) hZ (hw _ (List.mem_of_getElem? (i := 5) rfl)) (hw _ (List.mem_of_getElem? (i := 4) rfl)) (by decide) (by decide)) (g := (mkF m 99 #[iv p1, iv p2, iv p3, iv p4, iv p5, iv p6, iv 1, iv (((p6 &&& (2147483647 : Int32)) % (6 : Int32)) - (1 : Int32)), iv ((1 : Int32) + (((p6 &&& (2147483647 : Int32)) % (6 : Int32)) - (1 : Int32))), rv b24, .unset] [(.int (((p6 &&& (2147483647 : Int32)) % (6 : Int32)) - (1 : Int32))), (.int (p4 &&& (255 : Int32))), (.int (p3 &&& (255 : Int32))), (.int (p2 &&& (255 : Int32))), (.int (p1 &&& (255 : Int32)))])) rfl (by rw [hml]; rfl) (argsL := [(.int (p1 &&& (255 : Int32))), (.int (p2 &&& (255 : Int32))), (.int (p3 &&& (255 : Int32))), (.int (p4 &&& (255 : Int32))), (.int (((p6 &&& (2147483647 : Int32)) % (6 : Int32)) - (1 : Int32)))]) (rest := []) (lenOf pd_1 rfl) rfl (by show 2 * 0 + _ ≤ _; exact Nat.le_of_eq rfl) (hb hby at_99) (fun _ _ => ⟨rfl, e42, (by decide : 1 + 0 ≤ _), (by decide : 6 + 0 ≤ _)⟩)
    dsimp only [Pt.U, Pt.locs, Pt.cells, Pt.slots] at X44 l44 y44 z44 st44 hQ44
    subst l44 y44 z44
    obtain ⟨rfl, M44, e44⟩ := hQ44
    have N44 := Fr.app N42 M44
    refine Goes.on (fun t k => st44 _ k) ?_
    show Goes p e below QQ (T44.setTop (mkF m 102 #[iv p1, iv p2, iv p3, iv p4, iv p5, iv p6, iv 1, iv (((p6 &&& (2147483647 : Int32)) % (6 : Int32)) - (1 : Int32)), iv ((1 : Int32) + (((p6 &&& (2147483647 : Int32)) % (6 : Int32)) - (1 : Int32))), rv b24, .unset] [(.int (expF (p1 &&& (255 : Int32)) (p2 &&& (255 : Int32)) (p3 &&& (255 : Int32)) (p4 &&& (255 : Int32)) (((p6 &&& (2147483647 : Int32)) % (6 : Int32)) - (1 : Int32))))]))
    refine Goes.on (fun t k => XS.istore X44.here hx rfl (hb hby at_102) rfl (l' := #[iv p1, iv p2, iv p3, iv p4, iv p5, iv p6, iv 1, iv (((p6 &&& (2147483647 : Int32)) % (6 : Int32)) - (1 : Int32)), iv ((1 : Int32) + (((p6 &&& (2147483647 : Int32)) % (6 : Int32)) - (1 : Int32))), rv b24, iv (expF (p1 &&& (255 : Int32)) (p2 &&& (255 : Int32)) (p3 &&& (255 : Int32)) (p4 &&& (255 : Int32)) (((p6 &&& (2147483647 : Int32)) % (6 : Int32)) - (1 : Int32)))]) rfl k) ?_
    show Goes p e below QQ (T44.setTop (mkF m 104 #[iv p1, iv p2, iv p3, iv p4, iv p5, iv p6, iv 1, iv (((p6 &&& (2147483647 : Int32)) % (6 : Int32)) - (1 : Int32)), iv ((1 : Int32) + (((p6 &&& (2147483647 : Int32)) % (6 : Int32)) - (1 : Int32))), rv b24, iv (expF (p1 &&& (255 : Int32)) (p2 &&& (255 : Int32)) (p3 &&& (255 : Int32)) (p4 &&& (255 : Int32)) (((p6 &&& (2147483647 : Int32)) % (6 : Int32)) - (1 : Int32)))] []))
    refine Goes.on (fun t k => XS.aload X44.here hx rfl (hb hby at_104) rfl rfl k) ?_
    show Goes p e below QQ (T44.setTop (mkF m 106 #[iv p1, iv p2, iv p3, iv p4, iv p5, iv p6, iv 1, iv (((p6 &&& (2147483647 : Int32)) % (6 : Int32)) - (1 : Int32)), iv ((1 : Int32) + (((p6 &&& (2147483647 : Int32)) % (6 : Int32)) - (1 : Int32))), rv b24, iv (expF (p1 &&& (255 : Int32)) (p2 &&& (255 : Int32)) (p3 &&& (255 : Int32)) (p4 &&& (255 : Int32)) (((p6 &&& (2147483647 : Int32)) % (6 : Int32)) - (1 : Int32)))] [(.ref b24)]))
    refine Goes.on (fun t k => XS.iload X44.here hx rfl (hb hby at_106) rfl k) ?_
    show Goes p e below QQ (T44.setTop (mkF m 108 #[iv p1, iv p2, iv p3, iv p4, iv p5, iv p6, iv 1, iv (((p6 &&& (2147483647 : Int32)) % (6 : Int32)) - (1 : Int32)), iv ((1 : Int32) + (((p6 &&& (2147483647 : Int32)) % (6 : Int32)) - (1 : Int32))), rv b24, iv (expF (p1 &&& (255 : Int32)) (p2 &&& (255 : Int32)) (p3 &&& (255 : Int32)) (p4 &&& (255 : Int32)) (((p6 &&& (2147483647 : Int32)) % (6 : Int32)) - (1 : Int32)))] [(.int 1), (.ref b24)]))
    refine Goes.on (fun t k => XS.iload X44.here hx rfl (hb hby at_108) rfl k) ?_
    show Goes p e below QQ (T44.setTop (mkF m 110 #[iv p1, iv p2, iv p3, iv p4, iv p5, iv p6, iv 1, iv (((p6 &&& (2147483647 : Int32)) % (6 : Int32)) - (1 : Int32)), iv ((1 : Int32) + (((p6 &&& (2147483647 : Int32)) % (6 : Int32)) - (1 : Int32))), rv b24, iv (expF (p1 &&& (255 : Int32)) (p2 &&& (255 : Int32)) (p3 &&& (255 : Int32)) (p4 &&& (255 : Int32)) (((p6 &&& (2147483647 : Int32)) % (6 : Int32)) - (1 : Int32)))] [(.int ((1 : Int32) + (((p6 &&& (2147483647 : Int32)) % (6 : Int32)) - (1 : Int32)))), (.int 1), (.ref b24)]))
    obtain ⟨_, _, ⟨T45, L45, k45, n45⟩, -, X45, ⟨Lc45, hQ45, l45, y45, z45⟩, st45⟩ := Jvm.LawKit.callS X44 hx (y := (⟨"com/example/sober_links/soberlinks/io/Utf8", "sequenceLength", "([BII)I"⟩ : MethodName)) hown (mvT hZ (hw _ (List.mem_of_getElem? (i := 6) rfl))) (mvT hZ (hw _ (List.mem_of_getElem? (i := 7) rfl))) (mvT hZ (hw _ (List.mem_of_getElem? (i := 8) rfl))) (mvT hZ (hw _ (List.mem_of_getElem? (i := 9) rfl))) (by decide) (backOf (W := 0) (rm3 l Z a0 hw [] b24 (1 : Int32) ((1 : Int32) + (((p6 &&& (2147483647 : Int32)) % (6 : Int32)) - (1 : Int32))) k24 (6 : Int32) [(.int p4.toInt8.toInt32.toInt8.toInt32), (.int p1.toInt8.toInt32.toInt8.toInt32), (.int p2.toInt8.toInt32.toInt8.toInt32), (.int p3.toInt8.toInt32.toInt8.toInt32), (.int p4.toInt8.toInt32.toInt8.toInt32), (.int p2.toInt8.toInt32.toInt8.toInt32)] p1.toInt8.toInt32.toInt8.toInt32 p2.toInt8.toInt32.toInt8.toInt32 p3.toInt8.toInt32.toInt8.toInt32 p4.toInt8.toInt32.toInt8.toInt32 h42 n0 (Nat.le_trans Z0 K42.1) V_43 ⟨by decide, by decide⟩ rfl ⟨by decide, by decide⟩ rfl ⟨by decide, by decide⟩ rfl ⟨by decide, by decide⟩ rfl) hZ (hw _ (List.mem_of_getElem? (i := 9) rfl)) (hw _ (List.mem_of_getElem? (i := 8) rfl)) (by decide) (by decide)) (g := (mkF m 110 #[iv p1, iv p2, iv p3, iv p4, iv p5, iv p6, iv 1, iv (((p6 &&& (2147483647 : Int32)) % (6 : Int32)) - (1 : Int32)), iv ((1 : Int32) + (((p6 &&& (2147483647 : Int32)) % (6 : Int32)) - (1 : Int32))), rv b24, iv (expF (p1 &&& (255 : Int32)) (p2 &&& (255 : Int32)) (p3 &&& (255 : Int32)) (p4 &&& (255 : Int32)) (((p6 &&& (2147483647 : Int32)) % (6 : Int32)) - (1 : Int32)))] [(.int ((1 : Int32) + (((p6 &&& (2147483647 : Int32)) % (6 : Int32)) - (1 : Int32)))), (.int 1), (.ref b24)])) rfl (by rw [hml]; rfl) (argsL := [(.ref b24), (.int 1), (.int ((1 : Int32) + (((p6 &&& (2147483647 : Int32)) % (6 : Int32)) - (1 : Int32))))]) (rest := []) (lenOf pd_2 rfl) rfl (by show 2 * 0 + _ ≤ _; exact Nat.le_of_eq rfl) (hb hby at_110) (fun _ _ => ⟨rfl, e44, (by decide : 1 + 0 ≤ _), (by decide : 6 + 0 ≤ _)⟩)
    dsimp only [Pt.U, Pt.locs, Pt.cells, Pt.slots] at X45 l45 y45 z45 st45 hQ45
    subst l45 y45 z45
    obtain ⟨rfl, M45, e45⟩ := hQ45
    have N45 := Fr.app N44 M45
    refine Goes.on (fun t k => st45 _ k) ?_
    show Goes p e below QQ (T45.setTop (mkF m 113 #[iv p1, iv p2, iv p3, iv p4, iv p5, iv p6, iv 1, iv (((p6 &&& (2147483647 : Int32)) % (6 : Int32)) - (1 : Int32)), iv ((1 : Int32) + (((p6 &&& (2147483647 : Int32)) % (6 : Int32)) - (1 : Int32))), rv b24, iv (expF (p1 &&& (255 : Int32)) (p2 &&& (255 : Int32)) (p3 &&& (255 : Int32)) (p4 &&& (255 : Int32)) (((p6 &&& (2147483647 : Int32)) % (6 : Int32)) - (1 : Int32)))] [(.int (seqF (1 : Int32) ((1 : Int32) + (((p6 &&& (2147483647 : Int32)) % (6 : Int32)) - (1 : Int32))) p1.toInt8.toInt32.toInt8.toInt32 p2.toInt8.toInt32.toInt8.toInt32 p3.toInt8.toInt32.toInt8.toInt32 p4.toInt8.toInt32.toInt8.toInt32))]))
    refine Goes.on (fun t k => XS.iload X45.here hx rfl (hb hby at_113) rfl k) ?_
    show Goes p e below QQ (T45.setTop (mkF m 115 #[iv p1, iv p2, iv p3, iv p4, iv p5, iv p6, iv 1, iv (((p6 &&& (2147483647 : Int32)) % (6 : Int32)) - (1 : Int32)), iv ((1 : Int32) + (((p6 &&& (2147483647 : Int32)) % (6 : Int32)) - (1 : Int32))), rv b24, iv (expF (p1 &&& (255 : Int32)) (p2 &&& (255 : Int32)) (p3 &&& (255 : Int32)) (p4 &&& (255 : Int32)) (((p6 &&& (2147483647 : Int32)) % (6 : Int32)) - (1 : Int32)))] [(.int (expF (p1 &&& (255 : Int32)) (p2 &&& (255 : Int32)) (p3 &&& (255 : Int32)) (p4 &&& (255 : Int32)) (((p6 &&& (2147483647 : Int32)) % (6 : Int32)) - (1 : Int32)))), (.int (seqF (1 : Int32) ((1 : Int32) + (((p6 &&& (2147483647 : Int32)) % (6 : Int32)) - (1 : Int32))) p1.toInt8.toInt32.toInt8.toInt32 p2.toInt8.toInt32.toInt8.toInt32 p3.toInt8.toInt32.toInt8.toInt32 p4.toInt8.toInt32.toInt8.toInt32))]))
    by_cases hb46 : (seqF (1 : Int32) ((1 : Int32) + (((p6 &&& (2147483647 : Int32)) % (6 : Int32)) - (1 : Int32))) p1.toInt8.toInt32.toInt8.toInt32 p2.toInt8.toInt32.toInt8.toInt32 p3.toInt8.toInt32.toInt8.toInt32 p4.toInt8.toInt32.toInt8.toInt32) = (expF (p1 &&& (255 : Int32)) (p2 &&& (255 : Int32)) (p3 &&& (255 : Int32)) (p4 &&& (255 : Int32)) (((p6 &&& (2147483647 : Int32)) % (6 : Int32)) - (1 : Int32)))
    · refine Goes.on (fun t k => XS.icmpNo X45.here hx rfl (hb hby at_115) rfl (teq hb46).2 k) ?_
      show Goes p e below QQ (T45.setTop (mkF m 118 #[iv p1, iv p2, iv p3, iv p4, iv p5, iv p6, iv 1, iv (((p6 &&& (2147483647 : Int32)) % (6 : Int32)) - (1 : Int32)), iv ((1 : Int32) + (((p6 &&& (2147483647 : Int32)) % (6 : Int32)) - (1 : Int32))), rv b24, iv (expF (p1 &&& (255 : Int32)) (p2 &&& (255 : Int32)) (p3 &&& (255 : Int32)) (p4 &&& (255 : Int32)) (((p6 &&& (2147483647 : Int32)) % (6 : Int32)) - (1 : Int32)))] []))
      refine Goes.on (fun t k => XS.iconst X45.here hx rfl (hb hby at_118) k) ?_
      show Goes p e below QQ (T45.setTop (mkF m 119 #[iv p1, iv p2, iv p3, iv p4, iv p5, iv p6, iv 1, iv (((p6 &&& (2147483647 : Int32)) % (6 : Int32)) - (1 : Int32)), iv ((1 : Int32) + (((p6 &&& (2147483647 : Int32)) % (6 : Int32)) - (1 : Int32))), rv b24, iv (expF (p1 &&& (255 : Int32)) (p2 &&& (255 : Int32)) (p3 &&& (255 : Int32)) (p4 &&& (255 : Int32)) (((p6 &&& (2147483647 : Int32)) % (6 : Int32)) - (1 : Int32)))] [(.int 1)]))
      refine Goes.on (fun t k => XS.goto X45.here hx rfl (pc0 := 119) (pc' := 123) rfl (hb hby at_119) (by decide) (by decide) k) ?_
      show Goes p e below QQ (T45.setTop (mkF m 123 #[iv p1, iv p2, iv p3, iv p4, iv p5, iv p6, iv 1, iv (((p6 &&& (2147483647 : Int32)) % (6 : Int32)) - (1 : Int32)), iv ((1 : Int32) + (((p6 &&& (2147483647 : Int32)) % (6 : Int32)) - (1 : Int32))), rv b24, iv (expF (p1 &&& (255 : Int32)) (p2 &&& (255 : Int32)) (p3 &&& (255 : Int32)) (p4 &&& (255 : Int32)) (((p6 &&& (2147483647 : Int32)) % (6 : Int32)) - (1 : Int32)))] [(.int 1)]))
      exact Goes.rN X45 hx (t := .boolean) hret (by simp) hlk (hb hby at_123) hQQ ⟨rfl, N45⟩ (by decide) (by decide)
    · refine Goes.on (fun t k => XS.icmpYes X45.here hx rfl (pc0 := 115) (pc' := 122) rfl (hb hby at_115) rfl (feq hb46).2 (by decide) (by decide) k) ?_
      show Goes p e below QQ (T45.setTop (mkF m 122 #[iv p1, iv p2, iv p3, iv p4, iv p5, iv p6, iv 1, iv (((p6 &&& (2147483647 : Int32)) % (6 : Int32)) - (1 : Int32)), iv ((1 : Int32) + (((p6 &&& (2147483647 : Int32)) % (6 : Int32)) - (1 : Int32))), rv b24, iv (expF (p1 &&& (255 : Int32)) (p2 &&& (255 : Int32)) (p3 &&& (255 : Int32)) (p4 &&& (255 : Int32)) (((p6 &&& (2147483647 : Int32)) % (6 : Int32)) - (1 : Int32)))] []))
      refine Goes.on (fun t k => XS.iconst X45.here hx rfl (hb hby at_122) k) ?_
      show Goes p e below QQ (T45.setTop (mkF m 123 #[iv p1, iv p2, iv p3, iv p4, iv p5, iv p6, iv 1, iv (((p6 &&& (2147483647 : Int32)) % (6 : Int32)) - (1 : Int32)), iv ((1 : Int32) + (((p6 &&& (2147483647 : Int32)) % (6 : Int32)) - (1 : Int32))), rv b24, iv (expF (p1 &&& (255 : Int32)) (p2 &&& (255 : Int32)) (p3 &&& (255 : Int32)) (p4 &&& (255 : Int32)) (((p6 &&& (2147483647 : Int32)) % (6 : Int32)) - (1 : Int32)))] [(.int 0)]))
      exact absurd ((((if_neg hst).trans ((if_neg hb46).trans rfl)) : lawF p1 p2 p3 p4 p5 p6 = (0 : Int32)).symm.trans (lawT p1 p2 p3 p4 p5 p6)) (by decide)
set_option maxRecDepth 65536 in
set_option maxHeartbeats 40000000 in
theorem comes_1 {Post : Tables → Env → Array Value → State → Outcome → State → Prop} (hpost : ∀ tb e args s v u, (limb_1_1.after args s (.returned v) u = true ∧ limb_1_2.after args s (.returned v) u = true ∧ True) → FrameEnd s (.returned v) u (Jvm.fieldLocs frame_1_writes args s ++ Jvm.arrayLocs frame_1_arrays args s ++ Jvm.staticLocs frame_1_statics s) 16 128 → Post tb e args s (.returned v) u) :
    ArmFor flags0 classFile x code maxLocals ret World_1 tables_1 room_1 Calls_1 rest_1 Pre_1 Post := by
  intro l hfl _ _ p e ha hc hk s m args below hf hA hF happ hP
  obtain ⟨hcalls, hrest, hpre⟩ := hP
  obtain ⟨-, -, -, hnamed, -, -, -, hat⟩ := (Spec.applies_iff hf).mp happ
  obtain ⟨hg, hn⟩ := and_e (Cond.before_iff.mp (show (Jvm.Cond.and given_1 narrow_1).before args s = true from hpre))
  obtain ⟨hg0, hg1⟩ := and_e hg
  obtain ⟨ga1, hg2⟩ := and_e hg1
  obtain ⟨ga2, hg3⟩ := and_e hg2
  obtain ⟨ga3, hg4⟩ := and_e hg3
  obtain ⟨ga4, hg5⟩ := and_e hg4
  obtain ⟨ga5, hg6⟩ := and_e hg5
  obtain ⟨w0, w1, w2, w3, w4, w5, rfl⟩ : ∃ w0 w1 w2 w3 w4 w5 : Value, args = #[w0, w1, w2, w3, w4, w5] := by
    have hs : args.size = 6 := by simpa [Cond.value, given_1] using hg0
    obtain ⟨L⟩ := args
    match L, hs with
    | [w0, w1, w2, w3, w4, w5], _ => exact ⟨w0, w1, w2, w3, w4, w5, rfl⟩
  have hw := fun d (hd : d ∈ tables_1) => atoms_spec (ws := Jvm.Cond.code x code maxLocals ret :: tables_1) hat d (List.mem_cons_of_mem _ hd)
  have hfit : Fit s := fun {y c} hc i hi => by
    obtain ⟨ha, rfl⟩ := Array.getElem?_eq_some_iff.mp hc
    have q := List.all_eq_true.mp ((Array.all_eq_true_iff_forall_mem.mp hF) _ (Array.getElem_mem ha)) i (List.mem_range.mpr hi)
    simpa [Array.getElem?_eq_getElem hi] using q
  obtain ⟨i0, ei0⟩ := is_v ga1
  obtain rfl : w0 = (.int i0) := Option.some.inj ei0
  obtain ⟨i1, ei1⟩ := is_v ga2
  obtain rfl : w1 = (.int i1) := Option.some.inj ei1
  obtain ⟨i2, ei2⟩ := is_v ga3
  obtain rfl : w2 = (.int i2) := Option.some.inj ei2
  obtain ⟨i3, ei3⟩ := is_v ga4
  obtain rfl : w3 = (.int i3) := Option.some.inj ei3
  obtain ⟨i4, ei4⟩ := is_v ga5
  obtain rfl : w4 = (.int i4) := Option.some.inj ei4
  obtain ⟨i5, ei5⟩ := is_v hg6
  obtain rfl : w5 = (.int i5) := Option.some.inj ei5
  obtain ⟨n, o, h1, h2, h3, _, L, rfl, ⟨rfl, N⟩, hq⟩ := rm0 l s _ hw tables_1 i0 i1 i2 i3 i4 i5 s.heap s.heap.size (Nat.le_refl _)  p e ha hc hk s m _ below hf ((Spec.applies_iff_loose hf).mp happ).1 ⟨rfl, State.Warmed39.refl s, rfl⟩ trivial
  refine ⟨n, _, h1, h2, h3, hpost _ _ _ _ _ _ ⟨Cond.after_iff.mpr rfl, Cond.after_iff.mpr (eq_i res_at (Term.int_eval (1)) rfl), trivial⟩ ⟨hq.1, hq.2.1, (hq.2.2.sift fun y hy => Or.inr (N y hy)).mono (by decide) (by decide)⟩⟩
theorem main_1_1 : Claimed_1_1 := comes_1 fun _ _ _ _ _ _ h hF => ⟨h.1, hF⟩
theorem main_1_2 : Claimed_1_2 := comes_1 fun _ _ _ _ _ _ h hF => ⟨h.2.1, hF⟩
end Jvm.Pilot.@@N@@
namespace Jvm.Pilot.@@N@@
open Jvm Jvm.ClassFile Sem Op Lib Jvm.Free Jvm.Stand Jvm.Pilot.@@N@@.Jvm.D
/-! MADE BY PROGRAM (witnessworld.py) out of the Statement's table words and the real class files: 9 classes; the members and pool entries that the words name. The judged class is class 1, her method 1. -/
namespace start1
open Jvm.ClassFile
def u (s : String) : CpInfo := .utf8 (stringToUtf16 s)
/-- a pool by its gaps: so many unusable entries, then the entry; so many at the end -/
def gap : Nat → List CpInfo → List CpInfo
  | 0, r => r
  | n + 1, r => .unusable :: gap n r
def poolList (es : List (Nat × CpInfo)) (last : Nat) : List CpInfo := es.foldr (fun e r => gap e.1 (e.2 :: r)) (gap last [])
def pool (es : List (Nat × CpInfo)) (last : Nat) : Array CpInfo := ⟨poolList es last⟩
def fileOf (pool : Array CpInfo) (this : Nat) (attrs : Array Attribute := #[]) (ms : Array MethodInfo := #[]) (fl : Nat := 33) (sup : Nat := 0) (ifs : Array Nat := #[]) (fds : Array FieldInfo := #[]) : ClassFile where
  minorVersion := 0
  majorVersion := 65
  constantPool := pool
  accessFlags := fl
  thisClass := this
  superClass := sup
  interfaces := ifs
  fields := fds
  methods := ms
  attributes := attrs
def plain (name : String) (sup : Option ClassId) : Class where
  name := name
  kind := .ordinary
  loader := none
  accessFlags := 33
  super := sup
  interfaces := #[]
  cf := none
  fields := #[]
  methods := #[]
  instanceTypes := #[]
  staticTypes := #[]
  resolved := #[]
  callSites := []
  init := .initialized
  statics := none
  mirror := none

def pool0 : Array CpInfo := pool [(5, u "<init>"), (0, u "()V"), (1, .class_ 10), (1, u "java/lang/Object")] 113

def k0m0 : Method := { name := "<init>", desc := "()V", sig := { parameters := [], returnType := none }, accessFlags := 1, code := none }
/-- java/lang/Object -/
def k0 : Class := { plain "java/lang/Object" none with
  accessFlags := 33
  interfaces := #[]
  cf := some (fileOf pool0 8 #[] #[{ accessFlags := 1, nameIndex := 5, descriptorIndex := 6, attributes := #[] }] 33 0 #[] #[])
  fields := #[]
  methods := #[k0m0]
  instanceTypes := #[]
  staticTypes := #[]
  resolved := Array.replicate 124 none
  statics := none }

def pool1 : Array CpInfo := pool [(2, .class_ 4), (1, u "java/lang/Object"), (0, u "<init>"), (0, u "()V"), (0, .integer 2147483647), (0, .methodref 9 10), (0, .class_ 11), (0, .nameAndType 12 13), (0, u "com/example/sober_links/soberlinks/io/Utf8SequenceLengthPinLaw"), (0, u "expected"), (0, u "(IIIII)I"), (0, .methodref 15 16), (0, .class_ 17), (0, .nameAndType 18 19), (0, u "com/example/sober_links/soberlinks/io/Utf8"), (0, u "sequenceLength"), (0, u "([BII)I"), (0, .integer 65536), (0, .methodref 9 22), (0, .nameAndType 23 24), (0, u "cont"), (0, u "(I)Z"), (0, .integer 1114111), (0, .integer 55296), (0, .integer 57343), (2, u "law"), (0, u "(IIIIII)Z")] 5

def k1m0 : Method := { name := "<init>", desc := "()V", sig := { parameters := [], returnType := none }, accessFlags := 1, code := none }
def k1c1 : Code := { maxStack := 5, maxLocals := 11, code := code, exceptionTable := #[], attributes := #[] }
def k1m1 : Method := { name := "law", desc := "(IIIIII)Z", sig := { parameters := [.int, .int, .int, .int, .int, .int], returnType := some .boolean }, accessFlags := 9, code := some k1c1 }
def k1c2 : Code := { maxStack := 2, maxLocals := 1, code := method_3_code, exceptionTable := #[], attributes := #[] }
def k1m2 : Method := { name := "cont", desc := "(I)Z", sig := { parameters := [.int], returnType := some .boolean }, accessFlags := 10, code := some k1c2 }
def k1c3 : Code := { maxStack := 3, maxLocals := 10, code := method_4_code, exceptionTable := #[], attributes := #[] }
def k1m3 : Method := { name := "expected", desc := "(IIIII)I", sig := { parameters := [.int, .int, .int, .int, .int], returnType := some .int }, accessFlags := 10, code := some k1c3 }
/-- com/example/sober_links/soberlinks/io/Utf8SequenceLengthPinLaw -/
def k1 : Class := { plain "com/example/sober_links/soberlinks/io/Utf8SequenceLengthPinLaw" (some 0) with
  accessFlags := 49
  interfaces := #[]
  cf := some (fileOf pool1 9 #[] #[{ accessFlags := 1, nameIndex := 5, descriptorIndex := 6, attributes := #[] }, { accessFlags := 9, nameIndex := 30, descriptorIndex := 31, attributes := #[] }, { accessFlags := 10, nameIndex := 23, descriptorIndex := 24, attributes := #[] }, { accessFlags := 10, nameIndex := 12, descriptorIndex := 13, attributes := #[] }] 49 2 #[] #[])
  fields := #[]
  methods := #[k1m0, k1m1, k1m2, k1m3]
  instanceTypes := #[]
  staticTypes := #[]
  resolved := Array.replicate 37 none
  statics := none }

def pool2 : Array CpInfo := pool [(2, .class_ 4), (1, u "java/lang/Object"), (0, u "<init>"), (0, u "()V"), (1, .class_ 10), (1, u "com/example/sober_links/soberlinks/io/Utf8"), (0, u "sequenceLength"), (0, u "([BII)I"), (44, u "CONTINUATION_BITS"), (0, u "I"), (2, u "LOWEST_CONTINUATION"), (1, u "HIGHEST_CONTINUATION")] 17

def k2m0 : Method := { name := "<init>", desc := "()V", sig := { parameters := [], returnType := none }, accessFlags := 2, code := none }
def k2c1 : Code := { maxStack := 3, maxLocals := 10, code := prog_93_method_3_code, exceptionTable := #[], attributes := #[] }
def k2m1 : Method := { name := "sequenceLength", desc := "([BII)I", sig := { parameters := [(.array .byte), .int, .int], returnType := some .int }, accessFlags := 8, code := some k2c1 }
/-- com/example/sober_links/soberlinks/io/Utf8 -/
def k2 : Class := { plain "com/example/sober_links/soberlinks/io/Utf8" (some 0) with
  accessFlags := 48
  interfaces := #[]
  cf := some (fileOf pool2 8 #[] #[{ accessFlags := 2, nameIndex := 5, descriptorIndex := 6, attributes := #[] }, { accessFlags := 8, nameIndex := 11, descriptorIndex := 12, attributes := #[] }] 48 2 #[] #[{ accessFlags := 26, nameIndex := 57, descriptorIndex := 58, attributes := #[] }, { accessFlags := 26, nameIndex := 61, descriptorIndex := 58, attributes := #[] }, { accessFlags := 26, nameIndex := 63, descriptorIndex := 58, attributes := #[] }])
  fields := #[{ name := "CONTINUATION_BITS", type := .int, accessFlags := 26, slot := 0, constantValue := 0 }, { name := "LOWEST_CONTINUATION", type := .int, accessFlags := 26, slot := 1, constantValue := 0 }, { name := "HIGHEST_CONTINUATION", type := .int, accessFlags := 26, slot := 2, constantValue := 0 }]
  methods := #[k2m0, k2m1]
  instanceTypes := #[]
  staticTypes := #[.int, .int, .int]
  resolved := Array.replicate 81 none
  statics := none }

def pool3 : Array CpInfo := pool [(1, u "java/lang/Cloneable"), (0, .class_ 1), (0, u "java/lang/Object"), (0, .class_ 3)] 3

/-- java/lang/Cloneable -/
def k3 : Class := { plain "java/lang/Cloneable" (some 0) with
  accessFlags := 1537
  interfaces := #[]
  cf := some (fileOf pool3 2 #[] #[] 1537 4 #[] #[])
  fields := #[]
  methods := #[]
  instanceTypes := #[]
  staticTypes := #[]
  resolved := Array.replicate 8 none
  statics := none }

def pool4 : Array CpInfo := pool [(1, u "java/io/Serializable"), (0, .class_ 1), (0, u "java/lang/Object"), (0, .class_ 3)] 3

/-- java/io/Serializable -/
def k4 : Class := { plain "java/io/Serializable" (some 0) with
  accessFlags := 1537
  interfaces := #[]
  cf := some (fileOf pool4 2 #[] #[] 1537 4 #[] #[])
  fields := #[]
  methods := #[]
  instanceTypes := #[]
  staticTypes := #[]
  resolved := Array.replicate 8 none
  statics := none }

/-- the primitive byte -/
def k5 : Class := { plain "byte" none with kind := .primitive 'B', accessFlags := 0x411 }
/-- [B -/
def k6 : Class := { plain "[B" (some 0) with kind := .array 5 .byte, interfaces := #[3, 4], accessFlags := 1041 }

/-- the primitive int -/
def k7 : Class := { plain "int" none with kind := .primitive 'I', accessFlags := 0x411 }
/-- [I -/
def k8 : Class := { plain "[I" (some 0) with kind := .array 7 .int, interfaces := #[3, 4], accessFlags := 1041 }

def heap : Heap := #[]
def classes : Array Class := #[k0, k1, k2, k3, k4, k5, k6, k7, k8]
def interned : List (Array UInt16 × Addr) := []
def slotsUsed : Nat := 0
def theMethod : MethodId := ⟨1, 1⟩
def args0 : Array Value := #[.int 0, .int 1, .int 2, .int 3, .int 4, .int 5]
def aboutOver (below : List Frame) : State where
  vm := { classes := classes, interned := interned.toArray }
  heap := heap
  slotsUsed := slotsUsed
  threads := #[{ frames := .invoking theMethod args0 :: below }]
def below0 : List Frame := [.native { method := ⟨0, 0⟩, args := #[] }]
def about1 : State := aboutOver below0
def p0 : Program := .bare "" "" ""
def e0 : Env := launch0.env 0 0 0
theorem w_frames : about1.frames = Frame.invoking theMethod args0 :: below0 := rfl
set_option maxRecDepth 65536 in
theorem w_args : argsFit about1.vm theMethod args0 = true := by decide +kernel
set_option maxRecDepth 65536 in
theorem w_heap : heapFits about1 = true := by decide +kernel
set_option maxRecDepth 65536 in
theorem w_runnable : about1.curStatus? = some .runnable := by decide +kernel
set_option maxRecDepth 65536 in
theorem w_alone : about1.alone = true := by decide +kernel
set_option maxRecDepth 65536 in
theorem w_named : about1.methodNamed? x = some theMethod := by decide +kernel
set_option maxRecDepth 65536 in
theorem w_hears : about1.hears theMethod below0 = true := by decide +kernel
set_option maxRecDepth 65536 in
theorem w_ripe : about1.ripe theMethod args0 below0 = true := by decide +kernel
theorem w_running : about1.status = .running := rfl
set_option maxRecDepth 65536 in
theorem w_room : about1.hasRoom e0.platform room_1 = true :=
  launch0.hasRoom_least _ room_1 (by decide +kernel) (by decide +kernel) (by decide +kernel) (by decide +kernel) (by decide +kernel) (by decide +kernel)
theorem allAtoms_all (ts : List Jvm.Cond) (a : Array Jvm.Value) (st : Jvm.State) : (allAtoms ts).before a st = ts.all (fun c => c.before a st) := by
  induction ts with
  | nil => rfl
  | cons c t ih =>
    show (Jvm.Cond.and c (allAtoms t)).before a st = _
    rw [Jvm.Cond.before_and, ih, List.all_cons]
def words1 : List Jvm.Cond := Jvm.Cond.code x code maxLocals ret :: tables_1
/-- a 'code' word, met by the world's own term for the bytes: nothing is compared byte by byte -/
theorem code_word {y : MethodName} {bytes : ByteArray} {mx : Nat} {rt : Option FieldType} {a : Array Value} {s : State} {m : MethodId} {meth : Method} {c : Code} (h1 : s.methodNamed? y = some m) (h2 : s.vm.method? m = some meth) (h3 : meth.code = some c) (h4 : c.code = bytes)
    (h5 : (c.maxLocals == mx && c.exceptionTable.isEmpty && decide (c.maxStack ≤ mostOperands) && decide (meth.sig.returnType = rt) && !meth.locks && decide (parseMethodDescriptor y.desc = some meth.sig)) = true) : (Jvm.Cond.code y bytes mx rt).before a s = true := by
  simp only [Bool.and_eq_true, beq_iff_eq, Bool.not_eq_true', decide_eq_true_eq] at h5
  obtain ⟨⟨⟨⟨⟨g1, g2⟩, g3⟩, g4⟩, g5⟩, g6⟩ := h5
  simp [Cond.before, Cond.holds, Cond.value, h1, h2, h3, h4, g1, g2, g3, g4, g5, g6]
def isCode : Jvm.Cond → Bool
  | .code _ _ _ _ => true
  | _ => false
theorem all_split {L : List Jvm.Cond} {P : Jvm.Cond → Bool} (h1 : L.all (fun c => isCode c || P c) = true) (h2 : ∀ c ∈ L.filter isCode, P c = true) : L.all P = true := by
  refine List.all_eq_true.mpr fun c hc => ?_
  have h := List.all_eq_true.mp h1 c hc
  rcases Bool.eq_false_or_eq_true (isCode c) with hi | hi
  · exact h2 c (List.mem_filter.mpr ⟨hc, hi⟩)
  · simpa [hi] using h
set_option maxRecDepth 65536 in
theorem w_c0 : (Jvm.Cond.code x code maxLocals ret).before args0 about1 = true := code_word (m := ⟨1, 1⟩) (meth := k1m1) (c := k1c1) (by decide +kernel) rfl rfl rfl (by decide +kernel)
set_option maxRecDepth 65536 in
theorem w_c1 : (Jvm.Cond.code ({ cls := "com/example/sober_links/soberlinks/io/Utf8SequenceLengthPinLaw", name := "expected", desc := "(IIIII)I" } : Jvm.MethodName) method_4_code (10 : Nat) (Option.some Jvm.ClassFile.FieldType.int)).before args0 about1 = true := code_word (m := ⟨1, 3⟩) (meth := k1m3) (c := k1c3) (by decide +kernel) rfl rfl rfl (by decide +kernel)
set_option maxRecDepth 65536 in
theorem w_c2 : (Jvm.Cond.code ({ cls := "com/example/sober_links/soberlinks/io/Utf8", name := "sequenceLength", desc := "([BII)I" } : Jvm.MethodName) prog_93_method_3_code (10 : Nat) (Option.some Jvm.ClassFile.FieldType.int)).before args0 about1 = true := code_word (m := ⟨2, 1⟩) (meth := k2m1) (c := k2c1) (by decide +kernel) rfl rfl rfl (by decide +kernel)
set_option maxRecDepth 65536 in
theorem w_c3 : (Jvm.Cond.code ({ cls := "com/example/sober_links/soberlinks/io/Utf8SequenceLengthPinLaw", name := "cont", desc := "(I)Z" } : Jvm.MethodName) method_3_code (1 : Nat) (Option.some Jvm.ClassFile.FieldType.boolean)).before args0 about1 = true := code_word (m := ⟨1, 2⟩) (meth := k1m2) (c := k1c2) (by decide +kernel) rfl rfl rfl (by decide +kernel)
def codes1 : List Jvm.Cond := [Jvm.Cond.code x code maxLocals ret, Jvm.Cond.code ({ cls := "com/example/sober_links/soberlinks/io/Utf8SequenceLengthPinLaw", name := "expected", desc := "(IIIII)I" } : Jvm.MethodName) method_4_code (10 : Nat) (Option.some Jvm.ClassFile.FieldType.int), Jvm.Cond.code ({ cls := "com/example/sober_links/soberlinks/io/Utf8", name := "sequenceLength", desc := "([BII)I" } : Jvm.MethodName) prog_93_method_3_code (10 : Nat) (Option.some Jvm.ClassFile.FieldType.int), Jvm.Cond.code ({ cls := "com/example/sober_links/soberlinks/io/Utf8SequenceLengthPinLaw", name := "cont", desc := "(I)Z" } : Jvm.MethodName) method_3_code (1 : Nat) (Option.some Jvm.ClassFile.FieldType.boolean)]
set_option maxRecDepth 65536 in
theorem codes_eq : words1.filter isCode = codes1 := rfl
theorem w_codes : ∀ c ∈ words1.filter isCode, c.before args0 about1 = true := by
  rw [codes_eq]
  intro c hc
  simp only [codes1, List.mem_cons, List.not_mem_nil, or_false] at hc
  rcases hc with rfl | rfl | rfl | rfl
  · exact w_c0
  · exact w_c1
  · exact w_c2
  · exact w_c3
set_option maxRecDepth 65536 in
theorem w_t1 : words1.all (fun c => isCode c || c.before args0 about1) = true := by decide +kernel
theorem w_tables : (allAtoms (Jvm.Cond.code x code maxLocals ret :: tables_1)).before args0 about1 = true := by
  rw [allAtoms_all]
  show words1.all (fun c => c.before args0 about1) = true
  refine all_split ?_ w_codes
  rw [w_t1]
set_option maxRecDepth 65536 in
theorem w_case : (Jvm.Cond.and given_1 narrow_1).before args0 about1 = true := by decide +kernel
theorem w_applies : (headSpec (Jvm.Cond.code x code maxLocals ret :: tables_1) room_1).applies x e0.platform about1 = true :=
  (Spec.applies_iff w_frames).mpr ⟨w_running, w_runnable, w_alone, w_named, w_hears, w_ripe, w_room, w_tables⟩
theorem atStart : AtStart classFile x code maxLocals ret World_1 tables_1 room_1 Calls_1 rest_1 Pre_1 launch0 p0 e0 about1 theMethod args0 below0 :=
  ⟨lists_1, trivial, launch0.admits_env _ _ _, launch0.least_env, fairChoices_fair.cas, fairChoices_fair.clock, w_frames, w_args, w_heap, w_applies, trivial, trivial, w_case⟩
end start1
theorem witness_1 : WitnessClaimed_1 := ⟨start1.p0, start1.e0, start1.about1, start1.theMethod, start1.args0, start1.below0, start1.atStart⟩
end Jvm.Pilot.@@N@@
