import JvmDerived
import JvmDerived.Pilot.@@N@@Statement
import JvmDerived.Pilot.@@N@@Code
set_option linter.unusedVariables false
set_option linter.unusedSimpArgs false
namespace Jvm.Pilot.@@N@@
open Jvm Jvm.ClassFile Sem Op Lib Jvm.Free Jvm.Stand Jvm.LawKit Jvm.RoadKit Bundle Jvm.Pilot.@@N@@.Jvm.D
/-! from the state S the run comes to an end that QQ allows -/
def Goes (p : Program) (e : Env) (below : List Frame) (QQ : Outcome → State → Prop) (S : State) : Prop :=
  ∃ s₂ o, Steps p.tables e below S s₂ ∧ s₂.status = .running ∧ Ended s₂ below o ∧ QQ o s₂
theorem Goes.on {p : Program} {e : Env} {below : List Frame} {QQ : Outcome → State → Prop} {S S' : State} (h : ∀ t, Steps p.tables e below S' t → Steps p.tables e below S t) (g : Goes p e below QQ S') : Goes p e below QQ S := by
  obtain ⟨s₂, o, h1, h2⟩ := g
  exact ⟨s₂, o, h _ h1, h2⟩
theorem Goes.cast {p : Program} {e : Env} {below : List Frame} {QQ : Outcome → State → Prop} {T : State} {g g' : JFrame} (q : g = g') (k : Goes p e below QQ (T.setTop g')) : Goes p e below QQ (T.setTop g) := q ▸ k
def EndsQ (s : State) (Q : Option Value → Heap → List Loc → Prop) (kc ks : Nat) (o : Outcome) (U' : State) : Prop := ∃ v L, o = .returned v ∧ Q v U'.heap L ∧ FrameEnd s o U' L kc ks
/-- a result alone -/
def QP (x : Value) (h0 : Heap) (n0 : Nat) (v : Option Value) (h : Heap) (L : List Loc) : Prop := v = some x ∧ Fr n0 L ∧ h = h0
theorem own_enter {l : Launch} {y : MethodName} {bytes : ByteArray} {maxL : Nat} {rt : Option FieldType} {ws : List Jvm.Cond} {rm : Room} {as' : Array Value} {Q : Option Value → Heap → List Loc → Prop} {Z : State} {h0 : Heap} {kc ks : Nat} (hp : plainFor y = true)
    (body : ∀ (p : Program) (e : Env) (s : State) (m : MethodId) (below : List Frame) (meth : Method) (c : Code) (s₁ : State) (QQ : Outcome → State → Prop), (∀ o U', EndsQ s Q kc ks o U' → QQ o U') → p.tables.exec = Jvm.exec → c.code = bytes → c.maxLocals = maxL → s.vm.findClass y.cls = some m.cls → meth.name = y.name → meth.sig.returnType = rt → meth.locks = false → Z.Warmed39 s.vm → Stand p l e rm s m as' below meth c s₁ [] 0 0 → s₁.heap = h0 →
      Goes p e below QQ (s₁.setTop (entryFrame m as' maxL))) :
    MetFree l y (head1 (Jvm.Cond.code y bytes maxL rt :: ws) rm) (fun a U => a = as' ∧ Z.Warmed39 U.vm ∧ U.heap = h0) (fun _ _ _ _ _ => True) (fun _ U o U' => ∃ v L, o = .returned v ∧ Q v U'.heap L ∧ FrameEnd U o U' L kc ks) := by
  refine MetFree.of_bodySF hp hisR ?_
  intro p e s m args below meth c s₁ Bd hml0 hP hK
  obtain ⟨rfl, hZ, hh⟩ := hP
  exact body p e s m below meth c s₁ _ (fun o U' h => h) Bd.exec Bd.bytes hml0 (findClass_of_methodNamed Bd.named) (name_of_methodNamed Bd.named Bd.method).1 Bd.returns (BodyLoose.notSynchronized Bd) hZ (Stand.of_body Bd) (by rw [← hh, Bd.state]; rfl)
section Ret
variable {p : Program} {l : Launch} {e : Env} {R : Room} {s : State} {m : MethodId} {args : Array Value} {below : List Frame} {meth : Method} {c : Code} {T : State} {locs : List Loc} {cells slots kc ks : Nat} {QQ : Outcome → State → Prop} {Q : Option Value → Heap → List Loc → Prop}
theorem Goes.fin (X : Stand p l e R s m args below meth c T locs cells slots) (hlk : meth.locks = false) {v : Option Value} (hv : meth.sig.returnType = none → v = none) {g : JFrame}
    (step : ∀ fs : List Frame, (∀ (f : JFrame) (acts : List Action), f.method = m → f.locked = none → f.entered = [] → (doReturn e (T.setTop f) acts v).1 = T.setFrames fs) → Steps p.tables e below (T.setTop g) (T.setFrames fs))
    (hQQ : ∀ o U', EndsQ s Q kc ks o U' → QQ o U') (hq : Q v T.heap locs) (hc : cells ≤ kc) (hs : slots ≤ ks) : Goes p e below QQ (T.setTop g) := by
  obtain ⟨fs, hr, hrun, hended, hW, hsame⟩ := X.leave (v := v) hv hlk
  exact ⟨_, _, step fs hr, hrun, hended, hQQ _ _ ⟨v, locs, rfl, hq, ⟨v, rfl⟩, hW, hsame.mono hc hs⟩⟩
theorem Goes.rI (X : Stand p l e R s m args below meth c T locs cells slots) (hx : p.tables.exec = Jvm.exec) (hret : meth.sig.returnType = some .int) (hlk : meth.locks = false) {pc : Nat} {Ls : Array Slot} {z : Int32} {rest : List Value} (hd : decode c.code pc = .ok (.ireturn, 1))
    (hQQ : ∀ o U', EndsQ s Q kc ks o U' → QQ o U') (hq : Q (some (.int z)) T.heap locs) (hc : cells ≤ kc) (hs : slots ≤ ks) : Goes p e below QQ (T.setTop (mkF m pc Ls (.int z :: rest))) :=
  Goes.fin X hlk (v := some (.int z)) (fun h => by rw [hret] at h; cases h) (fun fs hr => retOut X hx hret rfl (Or.inl ⟨rfl, Or.inl rfl, z, rfl⟩) hd hr) hQQ hq hc hs
theorem Goes.rN (X : Stand p l e R s m args below meth c T locs cells slots) (hx : p.tables.exec = Jvm.exec) {t : FieldType} (hret : meth.sig.returnType = some t) (ht : t = .boolean ∨ t = .byte ∨ t = .char ∨ t = .short) (hlk : meth.locks = false) {pc : Nat} {Ls : Array Slot} {z : Int32} {rest : List Value} (hd : decode c.code pc = .ok (.ireturn, 1))
    (hQQ : ∀ o U', EndsQ s Q kc ks o U' → QQ o U') (hq : Q (some (.int (nar t z))) T.heap locs) (hc : cells ≤ kc) (hs : slots ≤ ks) : Goes p e below QQ (T.setTop (mkF m pc Ls (.int z :: rest))) :=
  Goes.fin X hlk (v := some (.int (nar t z))) (fun h => by rw [hret] at h; cases h) (fun fs hr => retN X hx hret ht hd hr) hQQ hq hc hs
theorem Goes.rJ (X : Stand p l e R s m args below meth c T locs cells slots) (hx : p.tables.exec = Jvm.exec) (hret : meth.sig.returnType = some .long) (hlk : meth.locks = false) {pc : Nat} {Ls : Array Slot} {z : Int64} {rest : List Value} (hd : decode c.code pc = .ok (.lreturn, 1))
    (hQQ : ∀ o U', EndsQ s Q kc ks o U' → QQ o U') (hq : Q (some (.long z)) T.heap locs) (hc : cells ≤ kc) (hs : slots ≤ ks) : Goes p e below QQ (T.setTop (mkF m pc Ls (.long z :: rest))) :=
  Goes.fin X hlk (v := some (.long z)) (fun h => by rw [hret] at h; cases h) (fun fs hr => retOut X hx hret rfl (Or.inr (Or.inl ⟨rfl, rfl, z, rfl⟩)) hd hr) hQQ hq hc hs
theorem Goes.rA (X : Stand p l e R s m args below meth c T locs cells slots) (hx : p.tables.exec = Jvm.exec) {t : FieldType} (hret : meth.sig.returnType = some t) (ht : t.isReference = true) {w : Value} (hw : w.isRef = true) (hlk : meth.locks = false) {pc : Nat} {Ls : Array Slot} {rest : List Value} (hd : decode c.code pc = .ok (.areturn, 1))
    (hQQ : ∀ o U', EndsQ s Q kc ks o U' → QQ o U') (hq : Q (some w) T.heap locs) (hc : cells ≤ kc) (hs : slots ≤ ks) : Goes p e below QQ (T.setTop (mkF m pc Ls (w :: rest))) :=
  Goes.fin X hlk (v := some w) (fun h => by rw [hret] at h; cases h) (fun fs hr => retOut X hx hret (by cases w <;> first | (cases hw; done) | (cases t <;> first | (cases ht; done) | rfl)) (Or.inr (Or.inr (Or.inr (Or.inr ⟨rfl, ht, hw⟩)))) hd hr) hQQ hq hc hs
theorem Goes.rV (X : Stand p l e R s m args below meth c T locs cells slots) (hx : p.tables.exec = Jvm.exec) (hret : meth.sig.returnType = none) (hlk : meth.locks = false) {pc : Nat} {Ls : Array Slot} (hd : decode c.code pc = .ok (.return_, 1))
    (hQQ : ∀ o U', EndsQ s Q kc ks o U' → QQ o U') (hq : Q none T.heap locs) (hc : cells ≤ kc) (hs : slots ≤ ks) : Goes p e below QQ (T.setTop (mkF m pc Ls [])) :=
  Goes.fin X hlk (v := none) (fun _ => rfl) (fun fs hr => X.returnOut hx hret hd hr) hQQ hq hc hs
end Ret
/-- what the law leaves: it returned 1, and nothing old was written -/
def QL (n0 : Nat) (v : Option Value) (h : Heap) (L : List Loc) : Prop := v = some (.int 1) ∧ Fr n0 L
theorem d1_0 : decode prog_93_method_4_code 0 = .ok (.aload_n 0, 1) := by decide +kernel
theorem d1_1 : decode prog_93_method_4_code 1 = .ok (.iload_n 1, 1) := by decide +kernel
theorem d1_2 : decode prog_93_method_4_code 2 = .ok (.baload, 1) := by decide +kernel
theorem d1_3 : decode prog_93_method_4_code 3 = .ok (.sipush 255, 3) := by decide +kernel
theorem d1_6 : decode prog_93_method_4_code 6 = .ok (.iand, 1) := by decide +kernel
theorem d1_7 : decode prog_93_method_4_code 7 = .ok (.istore_n 2, 1) := by decide +kernel
theorem d1_8 : decode prog_93_method_4_code 8 = .ok (.iload_n 2, 1) := by decide +kernel
theorem d1_9 : decode prog_93_method_4_code 9 = .ok (.sipush 128, 3) := by decide +kernel
theorem d1_12 : decode prog_93_method_4_code 12 = .ok (.if_icmp .ge 11, 3) := by decide +kernel
theorem d1_15 : decode prog_93_method_4_code 15 = .ok (.iload_n 2, 1) := by decide +kernel
theorem d1_16 : decode prog_93_method_4_code 16 = .ok (.istore_n 3, 1) := by decide +kernel
theorem d1_17 : decode prog_93_method_4_code 17 = .ok (.iconst 1, 1) := by decide +kernel
theorem d1_18 : decode prog_93_method_4_code 18 = .ok (.istore 4, 2) := by decide +kernel
theorem d1_20 : decode prog_93_method_4_code 20 = .ok (.goto 47, 3) := by decide +kernel
theorem d1_23 : decode prog_93_method_4_code 23 = .ok (.iload_n 2, 1) := by decide +kernel
theorem d1_24 : decode prog_93_method_4_code 24 = .ok (.sipush 224, 3) := by decide +kernel
theorem d1_27 : decode prog_93_method_4_code 27 = .ok (.if_icmp .ge 14, 3) := by decide +kernel
theorem d1_30 : decode prog_93_method_4_code 30 = .ok (.iload_n 2, 1) := by decide +kernel
theorem d1_31 : decode prog_93_method_4_code 31 = .ok (.bipush 31, 2) := by decide +kernel
theorem d1_33 : decode prog_93_method_4_code 33 = .ok (.iand, 1) := by decide +kernel
theorem d1_34 : decode prog_93_method_4_code 34 = .ok (.istore_n 3, 1) := by decide +kernel
theorem d1_35 : decode prog_93_method_4_code 35 = .ok (.iconst 2, 1) := by decide +kernel
theorem d1_36 : decode prog_93_method_4_code 36 = .ok (.istore 4, 2) := by decide +kernel
theorem d1_38 : decode prog_93_method_4_code 38 = .ok (.goto 29, 3) := by decide +kernel
theorem d1_41 : decode prog_93_method_4_code 41 = .ok (.iload_n 2, 1) := by decide +kernel
theorem d1_42 : decode prog_93_method_4_code 42 = .ok (.sipush 240, 3) := by decide +kernel
theorem d1_45 : decode prog_93_method_4_code 45 = .ok (.if_icmp .ge 14, 3) := by decide +kernel
theorem d1_48 : decode prog_93_method_4_code 48 = .ok (.iload_n 2, 1) := by decide +kernel
theorem d1_49 : decode prog_93_method_4_code 49 = .ok (.bipush 15, 2) := by decide +kernel
theorem d1_51 : decode prog_93_method_4_code 51 = .ok (.iand, 1) := by decide +kernel
theorem d1_52 : decode prog_93_method_4_code 52 = .ok (.istore_n 3, 1) := by decide +kernel
theorem d1_53 : decode prog_93_method_4_code 53 = .ok (.iconst 3, 1) := by decide +kernel
theorem d1_54 : decode prog_93_method_4_code 54 = .ok (.istore 4, 2) := by decide +kernel
theorem d1_56 : decode prog_93_method_4_code 56 = .ok (.goto 11, 3) := by decide +kernel
theorem d1_59 : decode prog_93_method_4_code 59 = .ok (.iload_n 2, 1) := by decide +kernel
theorem d1_60 : decode prog_93_method_4_code 60 = .ok (.bipush 7, 2) := by decide +kernel
theorem d1_62 : decode prog_93_method_4_code 62 = .ok (.iand, 1) := by decide +kernel
theorem d1_63 : decode prog_93_method_4_code 63 = .ok (.istore_n 3, 1) := by decide +kernel
theorem d1_64 : decode prog_93_method_4_code 64 = .ok (.iconst 4, 1) := by decide +kernel
theorem d1_65 : decode prog_93_method_4_code 65 = .ok (.istore 4, 2) := by decide +kernel
theorem d1_67 : decode prog_93_method_4_code 67 = .ok (.iconst 1, 1) := by decide +kernel
theorem d1_68 : decode prog_93_method_4_code 68 = .ok (.istore 5, 2) := by decide +kernel
theorem d1_70 : decode prog_93_method_4_code 70 = .ok (.iload 5, 2) := by decide +kernel
theorem d1_72 : decode prog_93_method_4_code 72 = .ok (.iload 4, 2) := by decide +kernel
theorem d1_74 : decode prog_93_method_4_code 74 = .ok (.if_icmp .ge 24, 3) := by decide +kernel
theorem d1_77 : decode prog_93_method_4_code 77 = .ok (.iload_n 3, 1) := by decide +kernel
theorem d1_78 : decode prog_93_method_4_code 78 = .ok (.bipush 6, 2) := by decide +kernel
theorem d1_80 : decode prog_93_method_4_code 80 = .ok (.ishl, 1) := by decide +kernel
theorem d1_81 : decode prog_93_method_4_code 81 = .ok (.aload_n 0, 1) := by decide +kernel
theorem d1_82 : decode prog_93_method_4_code 82 = .ok (.iload_n 1, 1) := by decide +kernel
theorem d1_83 : decode prog_93_method_4_code 83 = .ok (.iload 5, 2) := by decide +kernel
theorem d1_85 : decode prog_93_method_4_code 85 = .ok (.iadd, 1) := by decide +kernel
theorem d1_86 : decode prog_93_method_4_code 86 = .ok (.baload, 1) := by decide +kernel
theorem d1_87 : decode prog_93_method_4_code 87 = .ok (.bipush 63, 2) := by decide +kernel
theorem d1_89 : decode prog_93_method_4_code 89 = .ok (.iand, 1) := by decide +kernel
theorem d1_90 : decode prog_93_method_4_code 90 = .ok (.ior, 1) := by decide +kernel
theorem d1_91 : decode prog_93_method_4_code 91 = .ok (.istore_n 3, 1) := by decide +kernel
theorem d1_92 : decode prog_93_method_4_code 92 = .ok (.iinc 5 1, 3) := by decide +kernel
theorem d1_95 : decode prog_93_method_4_code 95 = .ok (.goto (-25), 3) := by decide +kernel
theorem d1_98 : decode prog_93_method_4_code 98 = .ok (.iload_n 3, 1) := by decide +kernel
theorem d1_99 : decode prog_93_method_4_code 99 = .ok (.ireturn, 1) := by decide +kernel
theorem pn_1 : plainFor (⟨"com/example/sober_links/soberlinks/io/Utf8", "codePointAt", "([BI)I"⟩ : MethodName) = true := plainFor_of_name (show plainName "com/example/sober_links/soberlinks/io/Utf8" = true by first | (simp [plainName, overriddenIn]; done) | decide +kernel)
theorem ef_rm1_1 (m : MethodId) (x0 : Addr) (x1 : Int32) : entryFrame m #[(.ref x0), (.int x1)] 6 = mkF m 0 #[rv x0, iv x1, .unset, .unset, .unset, .unset] [] := by first | (simp [entryFrame, mkF, argsToLocals, Value.category]; done) | rfl
set_option maxRecDepth 65536 in
set_option maxHeartbeats 40000000 in
theorem rm1_1 (l : Launch) (Z : State) (a0 : Array Value) (hw : ∀ d ∈ tables_1, d.before a0 Z = true) (ws : List Jvm.Cond) (a1 : Addr) (p2 : Int32) (kk : ClassId) (zz : Int32) (vs : List Value) (x0 : Int32) (h0 : Heap) (n0 : Nat) (Z0 : n0 ≤ h0.size) (V_a1 : Arv Z h0 a1 kk .byte zz vs (.int 0)) (I0 : ¬ p2 < 0 ∧ p2 < zz) (G0 : vs.getD (p2).toNatClampNeg (.int (0 : Int32)) = .int x0) (H0 : (x0 &&& (255 : Int32)) < (128 : Int32)) :
    MetFree l (⟨"com/example/sober_links/soberlinks/io/Utf8", "codePointAt", "([BI)I"⟩ : MethodName) (head1 (Jvm.Cond.code (⟨"com/example/sober_links/soberlinks/io/Utf8", "codePointAt", "([BI)I"⟩ : MethodName) prog_93_method_4_code 6 (some .int) :: ws) ({ frames := 0, cells := 0, slots := 0, locals := 0 } : Room)) (fun a U => a = #[(.ref a1), (.int p2)] ∧ Z.Warmed39 U.vm ∧ U.heap = h0) (fun _ _ _ _ _ => True) (fun _ U o U' => ∃ v L, o = .returned v ∧ QP (.int (x0 &&& (255 : Int32))) h0 n0 v U'.heap L ∧ FrameEnd U o U' L ({ frames := 0, cells := 0, slots := 0, locals := 0 } : Room).cells ({ frames := 0, cells := 0, slots := 0, locals := 0 } : Room).slots) := by
  refine own_enter pn_1 ?_
  intro p e s m below meth c s₁ QQ hQQ hx hby hml hown hnm hret hlk hZ X0 e0
  have hown : s.vm.findClass "com/example/sober_links/soberlinks/io/Utf8" = some m.cls := hown
  have hml : c.maxLocals = 6 := hml
  have hret : meth.sig.returnType = some .int := hret
  have N0 := Fr.nil n0
  have K0 := Keep.refl h0 []
  refine Goes.cast (ef_rm1_1 m a1 p2) ?_
  show Goes p e below QQ (s₁.setTop (mkF m 0 #[rv a1, iv p2, .unset, .unset, .unset, .unset] []))
  refine Goes.on (fun t k => XS.aloadN X0.here hx rfl (hb hby d1_0) rfl rfl k) ?_
  show Goes p e below QQ (s₁.setTop (mkF m 1 #[rv a1, iv p2, .unset, .unset, .unset, .unset] [(.ref a1)]))
  refine Goes.on (fun t k => XS.iloadN X0.here hx rfl (hb hby d1_1) rfl k) ?_
  show Goes p e below QQ (s₁.setTop (mkF m 2 #[rv a1, iv p2, .unset, .unset, .unset, .unset] [(.int p2), (.ref a1)]))
  obtain ⟨cl1, Ar1, aq1, aS1, aN1, aH1, aG1⟩ := id V_a1
  have hin1 := inb_of (j := p2) aS1 I0
  have hat1 := Has.at (v := (.int x0)) aH1 hin1 G0
  refine Goes.on (fun t k => X0.baloadBytes hx (j := p2) (v := (.int x0)) (by rw [e0]; exact Ar1.1) (State.isArrayOf_alike hZ.alike Ar1.2.1) Ar1.2.2 hin1 hat1 (g := (mkF m 2 #[rv a1, iv p2, .unset, .unset, .unset, .unset] [(.int p2), (.ref a1)])) rfl rfl (hb hby d1_2) t k) ?_
  show Goes p e below QQ (s₁.setTop (mkF m 3 #[rv a1, iv p2, .unset, .unset, .unset, .unset] [(.int x0)]))
  refine Goes.on (fun t k => XS.sipush X0.here hx rfl (hb hby d1_3) k) ?_
  show Goes p e below QQ (s₁.setTop (mkF m 6 #[rv a1, iv p2, .unset, .unset, .unset, .unset] [(.int 255), (.int x0)]))
  refine Goes.on (fun t k => XS.iand X0.here hx rfl (hb hby d1_6) rfl k) ?_
  show Goes p e below QQ (s₁.setTop (mkF m 7 #[rv a1, iv p2, .unset, .unset, .unset, .unset] [(.int (x0 &&& (255 : Int32)))]))
  refine Goes.on (fun t k => XS.istoreN X0.here hx rfl (hb hby d1_7) rfl (l' := #[rv a1, iv p2, iv (x0 &&& (255 : Int32)), .unset, .unset, .unset]) rfl k) ?_
  show Goes p e below QQ (s₁.setTop (mkF m 8 #[rv a1, iv p2, iv (x0 &&& (255 : Int32)), .unset, .unset, .unset] []))
  refine Goes.on (fun t k => XS.iloadN X0.here hx rfl (hb hby d1_8) rfl k) ?_
  show Goes p e below QQ (s₁.setTop (mkF m 9 #[rv a1, iv p2, iv (x0 &&& (255 : Int32)), .unset, .unset, .unset] [(.int (x0 &&& (255 : Int32)))]))
  refine Goes.on (fun t k => XS.sipush X0.here hx rfl (hb hby d1_9) k) ?_
  show Goes p e below QQ (s₁.setTop (mkF m 12 #[rv a1, iv p2, iv (x0 &&& (255 : Int32)), .unset, .unset, .unset] [(.int 128), (.int (x0 &&& (255 : Int32)))]))
  refine Goes.on (fun t k => XS.icmpNo X0.here hx rfl (hb hby d1_12) rfl (tlt H0).2.1 k) ?_
  show Goes p e below QQ (s₁.setTop (mkF m 15 #[rv a1, iv p2, iv (x0 &&& (255 : Int32)), .unset, .unset, .unset] []))
  refine Goes.on (fun t k => XS.iloadN X0.here hx rfl (hb hby d1_15) rfl k) ?_
  show Goes p e below QQ (s₁.setTop (mkF m 16 #[rv a1, iv p2, iv (x0 &&& (255 : Int32)), .unset, .unset, .unset] [(.int (x0 &&& (255 : Int32)))]))
  refine Goes.on (fun t k => XS.istoreN X0.here hx rfl (hb hby d1_16) rfl (l' := #[rv a1, iv p2, iv (x0 &&& (255 : Int32)), iv (x0 &&& (255 : Int32)), .unset, .unset]) rfl k) ?_
  show Goes p e below QQ (s₁.setTop (mkF m 17 #[rv a1, iv p2, iv (x0 &&& (255 : Int32)), iv (x0 &&& (255 : Int32)), .unset, .unset] []))
  refine Goes.on (fun t k => XS.iconst X0.here hx rfl (hb hby d1_17) k) ?_
  show Goes p e below QQ (s₁.setTop (mkF m 18 #[rv a1, iv p2, iv (x0 &&& (255 : Int32)), iv (x0 &&& (255 : Int32)), .unset, .unset] [(.int 1)]))
  refine Goes.on (fun t k => XS.istore X0.here hx rfl (hb hby d1_18) rfl (l' := #[rv a1, iv p2, iv (x0 &&& (255 : Int32)), iv (x0 &&& (255 : Int32)), iv 1, .unset]) rfl k) ?_
  show Goes p e below QQ (s₁.setTop (mkF m 20 #[rv a1, iv p2, iv (x0 &&& (255 : Int32)), iv (x0 &&& (255 : Int32)), iv 1, .unset] []))
  refine Goes.on (fun t k => XS.goto X0.here hx rfl (pc0 := 20) (pc' := 67) rfl (hb hby d1_20) (by decide) (by decide) k) ?_
  show Goes p e below QQ (s₁.setTop (mkF m 67 #[rv a1, iv p2, iv (x0 &&& (255 : Int32)), iv (x0 &&& (255 : Int32)), iv 1, .unset] []))
  refine Goes.on (fun t k => XS.iconst X0.here hx rfl (hb hby d1_67) k) ?_
  show Goes p e below QQ (s₁.setTop (mkF m 68 #[rv a1, iv p2, iv (x0 &&& (255 : Int32)), iv (x0 &&& (255 : Int32)), iv 1, .unset] [(.int 1)]))
  refine Goes.on (fun t k => XS.istore X0.here hx rfl (hb hby d1_68) rfl (l' := #[rv a1, iv p2, iv (x0 &&& (255 : Int32)), iv (x0 &&& (255 : Int32)), iv 1, iv 1]) rfl k) ?_
  show Goes p e below QQ (s₁.setTop (mkF m 70 #[rv a1, iv p2, iv (x0 &&& (255 : Int32)), iv (x0 &&& (255 : Int32)), iv 1, iv 1] []))
  refine Goes.on (fun t k => XS.iload X0.here hx rfl (hb hby d1_70) rfl k) ?_
  show Goes p e below QQ (s₁.setTop (mkF m 72 #[rv a1, iv p2, iv (x0 &&& (255 : Int32)), iv (x0 &&& (255 : Int32)), iv 1, iv 1] [(.int 1)]))
  refine Goes.on (fun t k => XS.iload X0.here hx rfl (hb hby d1_72) rfl k) ?_
  show Goes p e below QQ (s₁.setTop (mkF m 74 #[rv a1, iv p2, iv (x0 &&& (255 : Int32)), iv (x0 &&& (255 : Int32)), iv 1, iv 1] [(.int 1), (.int 1)]))
  refine Goes.on (fun t k => XS.icmpYes X0.here hx rfl (pc0 := 74) (pc' := 98) rfl (hb hby d1_74) rfl (flt (by decide)).2.1 (by decide) (by decide) k) ?_
  show Goes p e below QQ (s₁.setTop (mkF m 98 #[rv a1, iv p2, iv (x0 &&& (255 : Int32)), iv (x0 &&& (255 : Int32)), iv 1, iv 1] []))
  refine Goes.on (fun t k => XS.iloadN X0.here hx rfl (hb hby d1_98) rfl k) ?_
  show Goes p e below QQ (s₁.setTop (mkF m 99 #[rv a1, iv p2, iv (x0 &&& (255 : Int32)), iv (x0 &&& (255 : Int32)), iv 1, iv 1] [(.int (x0 &&& (255 : Int32)))]))
  exact Goes.rI X0 hx hret hlk (hb hby d1_99) hQQ ⟨rfl, N0, e0⟩ (by decide) (by decide)
theorem ef_rm1_2 (m : MethodId) (x0 : Addr) (x1 : Int32) : entryFrame m #[(.ref x0), (.int x1)] 6 = mkF m 0 #[rv x0, iv x1, .unset, .unset, .unset, .unset] [] := by first | (simp [entryFrame, mkF, argsToLocals, Value.category]; done) | rfl
set_option maxRecDepth 65536 in
set_option maxHeartbeats 40000000 in
theorem rm1_2 (l : Launch) (Z : State) (a0 : Array Value) (hw : ∀ d ∈ tables_1, d.before a0 Z = true) (ws : List Jvm.Cond) (a1 : Addr) (p2 : Int32) (kk : ClassId) (zz : Int32) (vs : List Value) (x0 x1 : Int32) (h0 : Heap) (n0 : Nat) (Z0 : n0 ≤ h0.size) (V_a1 : Arv Z h0 a1 kk .byte zz vs (.int 0)) (I0 : ¬ p2 < 0 ∧ p2 < zz) (G0 : vs.getD (p2).toNatClampNeg (.int (0 : Int32)) = .int x0) (I1 : ¬ (p2 + (1 : Int32)) < 0 ∧ (p2 + (1 : Int32)) < zz) (G1 : vs.getD ((p2 + (1 : Int32))).toNatClampNeg (.int (0 : Int32)) = .int x1) (H0 : ¬ (x0 &&& (255 : Int32)) < (128 : Int32)) (H1 : (x0 &&& (255 : Int32)) < (224 : Int32)) :
    MetFree l (⟨"com/example/sober_links/soberlinks/io/Utf8", "codePointAt", "([BI)I"⟩ : MethodName) (head1 (Jvm.Cond.code (⟨"com/example/sober_links/soberlinks/io/Utf8", "codePointAt", "([BI)I"⟩ : MethodName) prog_93_method_4_code 6 (some .int) :: ws) ({ frames := 0, cells := 0, slots := 0, locals := 0 } : Room)) (fun a U => a = #[(.ref a1), (.int p2)] ∧ Z.Warmed39 U.vm ∧ U.heap = h0) (fun _ _ _ _ _ => True) (fun _ U o U' => ∃ v L, o = .returned v ∧ QP (.int ((((x0 &&& (255 : Int32)) &&& (31 : Int32)) <<< ((6 : Int32) &&& 31)) ||| (x1 &&& (63 : Int32)))) h0 n0 v U'.heap L ∧ FrameEnd U o U' L ({ frames := 0, cells := 0, slots := 0, locals := 0 } : Room).cells ({ frames := 0, cells := 0, slots := 0, locals := 0 } : Room).slots) := by
  refine own_enter pn_1 ?_
  intro p e s m below meth c s₁ QQ hQQ hx hby hml hown hnm hret hlk hZ X0 e0
  have hown : s.vm.findClass "com/example/sober_links/soberlinks/io/Utf8" = some m.cls := hown
  have hml : c.maxLocals = 6 := hml
  have hret : meth.sig.returnType = some .int := hret
  have N0 := Fr.nil n0
  have K0 := Keep.refl h0 []
  refine Goes.cast (ef_rm1_2 m a1 p2) ?_
  show Goes p e below QQ (s₁.setTop (mkF m 0 #[rv a1, iv p2, .unset, .unset, .unset, .unset] []))
  refine Goes.on (fun t k => XS.aloadN X0.here hx rfl (hb hby d1_0) rfl rfl k) ?_
  show Goes p e below QQ (s₁.setTop (mkF m 1 #[rv a1, iv p2, .unset, .unset, .unset, .unset] [(.ref a1)]))
  refine Goes.on (fun t k => XS.iloadN X0.here hx rfl (hb hby d1_1) rfl k) ?_
  show Goes p e below QQ (s₁.setTop (mkF m 2 #[rv a1, iv p2, .unset, .unset, .unset, .unset] [(.int p2), (.ref a1)]))
  obtain ⟨cl1, Ar1, aq1, aS1, aN1, aH1, aG1⟩ := id V_a1
  have hin1 := inb_of (j := p2) aS1 I0
  have hat1 := Has.at (v := (.int x0)) aH1 hin1 G0
  refine Goes.on (fun t k => X0.baloadBytes hx (j := p2) (v := (.int x0)) (by rw [e0]; exact Ar1.1) (State.isArrayOf_alike hZ.alike Ar1.2.1) Ar1.2.2 hin1 hat1 (g := (mkF m 2 #[rv a1, iv p2, .unset, .unset, .unset, .unset] [(.int p2), (.ref a1)])) rfl rfl (hb hby d1_2) t k) ?_
  show Goes p e below QQ (s₁.setTop (mkF m 3 #[rv a1, iv p2, .unset, .unset, .unset, .unset] [(.int x0)]))
  refine Goes.on (fun t k => XS.sipush X0.here hx rfl (hb hby d1_3) k) ?_
  show Goes p e below QQ (s₁.setTop (mkF m 6 #[rv a1, iv p2, .unset, .unset, .unset, .unset] [(.int 255), (.int x0)]))
  refine Goes.on (fun t k => XS.iand X0.here hx rfl (hb hby d1_6) rfl k) ?_
  show Goes p e below QQ (s₁.setTop (mkF m 7 #[rv a1, iv p2, .unset, .unset, .unset, .unset] [(.int (x0 &&& (255 : Int32)))]))
  refine Goes.on (fun t k => XS.istoreN X0.here hx rfl (hb hby d1_7) rfl (l' := #[rv a1, iv p2, iv (x0 &&& (255 : Int32)), .unset, .unset, .unset]) rfl k) ?_
  show Goes p e below QQ (s₁.setTop (mkF m 8 #[rv a1, iv p2, iv (x0 &&& (255 : Int32)), .unset, .unset, .unset] []))
  refine Goes.on (fun t k => XS.iloadN X0.here hx rfl (hb hby d1_8) rfl k) ?_
  show Goes p e below QQ (s₁.setTop (mkF m 9 #[rv a1, iv p2, iv (x0 &&& (255 : Int32)), .unset, .unset, .unset] [(.int (x0 &&& (255 : Int32)))]))
  refine Goes.on (fun t k => XS.sipush X0.here hx rfl (hb hby d1_9) k) ?_
  show Goes p e below QQ (s₁.setTop (mkF m 12 #[rv a1, iv p2, iv (x0 &&& (255 : Int32)), .unset, .unset, .unset] [(.int 128), (.int (x0 &&& (255 : Int32)))]))
  refine Goes.on (fun t k => XS.icmpYes X0.here hx rfl (pc0 := 12) (pc' := 23) rfl (hb hby d1_12) rfl (flt H0).2.1 (by decide) (by decide) k) ?_
  show Goes p e below QQ (s₁.setTop (mkF m 23 #[rv a1, iv p2, iv (x0 &&& (255 : Int32)), .unset, .unset, .unset] []))
  refine Goes.on (fun t k => XS.iloadN X0.here hx rfl (hb hby d1_23) rfl k) ?_
  show Goes p e below QQ (s₁.setTop (mkF m 24 #[rv a1, iv p2, iv (x0 &&& (255 : Int32)), .unset, .unset, .unset] [(.int (x0 &&& (255 : Int32)))]))
  refine Goes.on (fun t k => XS.sipush X0.here hx rfl (hb hby d1_24) k) ?_
  show Goes p e below QQ (s₁.setTop (mkF m 27 #[rv a1, iv p2, iv (x0 &&& (255 : Int32)), .unset, .unset, .unset] [(.int 224), (.int (x0 &&& (255 : Int32)))]))
  refine Goes.on (fun t k => XS.icmpNo X0.here hx rfl (hb hby d1_27) rfl (tlt H1).2.1 k) ?_
  show Goes p e below QQ (s₁.setTop (mkF m 30 #[rv a1, iv p2, iv (x0 &&& (255 : Int32)), .unset, .unset, .unset] []))
  refine Goes.on (fun t k => XS.iloadN X0.here hx rfl (hb hby d1_30) rfl k) ?_
  show Goes p e below QQ (s₁.setTop (mkF m 31 #[rv a1, iv p2, iv (x0 &&& (255 : Int32)), .unset, .unset, .unset] [(.int (x0 &&& (255 : Int32)))]))
  refine Goes.on (fun t k => XS.bipush X0.here hx rfl (hb hby d1_31) k) ?_
  show Goes p e below QQ (s₁.setTop (mkF m 33 #[rv a1, iv p2, iv (x0 &&& (255 : Int32)), .unset, .unset, .unset] [(.int 31), (.int (x0 &&& (255 : Int32)))]))
  refine Goes.on (fun t k => XS.iand X0.here hx rfl (hb hby d1_33) rfl k) ?_
  show Goes p e below QQ (s₁.setTop (mkF m 34 #[rv a1, iv p2, iv (x0 &&& (255 : Int32)), .unset, .unset, .unset] [(.int ((x0 &&& (255 : Int32)) &&& (31 : Int32)))]))
  refine Goes.on (fun t k => XS.istoreN X0.here hx rfl (hb hby d1_34) rfl (l' := #[rv a1, iv p2, iv (x0 &&& (255 : Int32)), iv ((x0 &&& (255 : Int32)) &&& (31 : Int32)), .unset, .unset]) rfl k) ?_
  show Goes p e below QQ (s₁.setTop (mkF m 35 #[rv a1, iv p2, iv (x0 &&& (255 : Int32)), iv ((x0 &&& (255 : Int32)) &&& (31 : Int32)), .unset, .unset] []))
  refine Goes.on (fun t k => XS.iconst X0.here hx rfl (hb hby d1_35) k) ?_
  show Goes p e below QQ (s₁.setTop (mkF m 36 #[rv a1, iv p2, iv (x0 &&& (255 : Int32)), iv ((x0 &&& (255 : Int32)) &&& (31 : Int32)), .unset, .unset] [(.int 2)]))
  refine Goes.on (fun t k => XS.istore X0.here hx rfl (hb hby d1_36) rfl (l' := #[rv a1, iv p2, iv (x0 &&& (255 : Int32)), iv ((x0 &&& (255 : Int32)) &&& (31 : Int32)), iv 2, .unset]) rfl k) ?_
  show Goes p e below QQ (s₁.setTop (mkF m 38 #[rv a1, iv p2, iv (x0 &&& (255 : Int32)), iv ((x0 &&& (255 : Int32)) &&& (31 : Int32)), iv 2, .unset] []))
  refine Goes.on (fun t k => XS.goto X0.here hx rfl (pc0 := 38) (pc' := 67) rfl (hb hby d1_38) (by decide) (by decide) k) ?_
  show Goes p e below QQ (s₁.setTop (mkF m 67 #[rv a1, iv p2, iv (x0 &&& (255 : Int32)), iv ((x0 &&& (255 : Int32)) &&& (31 : Int32)), iv 2, .unset] []))
  refine Goes.on (fun t k => XS.iconst X0.here hx rfl (hb hby d1_67) k) ?_
  show Goes p e below QQ (s₁.setTop (mkF m 68 #[rv a1, iv p2, iv (x0 &&& (255 : Int32)), iv ((x0 &&& (255 : Int32)) &&& (31 : Int32)), iv 2, .unset] [(.int 1)]))
  refine Goes.on (fun t k => XS.istore X0.here hx rfl (hb hby d1_68) rfl (l' := #[rv a1, iv p2, iv (x0 &&& (255 : Int32)), iv ((x0 &&& (255 : Int32)) &&& (31 : Int32)), iv 2, iv 1]) rfl k) ?_
  show Goes p e below QQ (s₁.setTop (mkF m 70 #[rv a1, iv p2, iv (x0 &&& (255 : Int32)), iv ((x0 &&& (255 : Int32)) &&& (31 : Int32)), iv 2, iv 1] []))
  refine Goes.on (fun t k => XS.iload X0.here hx rfl (hb hby d1_70) rfl k) ?_
  show Goes p e below QQ (s₁.setTop (mkF m 72 #[rv a1, iv p2, iv (x0 &&& (255 : Int32)), iv ((x0 &&& (255 : Int32)) &&& (31 : Int32)), iv 2, iv 1] [(.int 1)]))
  refine Goes.on (fun t k => XS.iload X0.here hx rfl (hb hby d1_72) rfl k) ?_
  show Goes p e below QQ (s₁.setTop (mkF m 74 #[rv a1, iv p2, iv (x0 &&& (255 : Int32)), iv ((x0 &&& (255 : Int32)) &&& (31 : Int32)), iv 2, iv 1] [(.int 2), (.int 1)]))
  refine Goes.on (fun t k => XS.icmpNo X0.here hx rfl (hb hby d1_74) rfl (tlt (by decide)).2.1 k) ?_
  show Goes p e below QQ (s₁.setTop (mkF m 77 #[rv a1, iv p2, iv (x0 &&& (255 : Int32)), iv ((x0 &&& (255 : Int32)) &&& (31 : Int32)), iv 2, iv 1] []))
  refine Goes.on (fun t k => XS.iloadN X0.here hx rfl (hb hby d1_77) rfl k) ?_
  show Goes p e below QQ (s₁.setTop (mkF m 78 #[rv a1, iv p2, iv (x0 &&& (255 : Int32)), iv ((x0 &&& (255 : Int32)) &&& (31 : Int32)), iv 2, iv 1] [(.int ((x0 &&& (255 : Int32)) &&& (31 : Int32)))]))
  refine Goes.on (fun t k => XS.bipush X0.here hx rfl (hb hby d1_78) k) ?_
  show Goes p e below QQ (s₁.setTop (mkF m 80 #[rv a1, iv p2, iv (x0 &&& (255 : Int32)), iv ((x0 &&& (255 : Int32)) &&& (31 : Int32)), iv 2, iv 1] [(.int 6), (.int ((x0 &&& (255 : Int32)) &&& (31 : Int32)))]))
  refine Goes.on (fun t k => XS.ishl X0.here hx rfl (hb hby d1_80) rfl k) ?_
  show Goes p e below QQ (s₁.setTop (mkF m 81 #[rv a1, iv p2, iv (x0 &&& (255 : Int32)), iv ((x0 &&& (255 : Int32)) &&& (31 : Int32)), iv 2, iv 1] [(.int (((x0 &&& (255 : Int32)) &&& (31 : Int32)) <<< ((6 : Int32) &&& 31)))]))
  refine Goes.on (fun t k => XS.aloadN X0.here hx rfl (hb hby d1_81) rfl rfl k) ?_
  show Goes p e below QQ (s₁.setTop (mkF m 82 #[rv a1, iv p2, iv (x0 &&& (255 : Int32)), iv ((x0 &&& (255 : Int32)) &&& (31 : Int32)), iv 2, iv 1] [(.ref a1), (.int (((x0 &&& (255 : Int32)) &&& (31 : Int32)) <<< ((6 : Int32) &&& 31)))]))
  refine Goes.on (fun t k => XS.iloadN X0.here hx rfl (hb hby d1_82) rfl k) ?_
  show Goes p e below QQ (s₁.setTop (mkF m 83 #[rv a1, iv p2, iv (x0 &&& (255 : Int32)), iv ((x0 &&& (255 : Int32)) &&& (31 : Int32)), iv 2, iv 1] [(.int p2), (.ref a1), (.int (((x0 &&& (255 : Int32)) &&& (31 : Int32)) <<< ((6 : Int32) &&& 31)))]))
  refine Goes.on (fun t k => XS.iload X0.here hx rfl (hb hby d1_83) rfl k) ?_
  show Goes p e below QQ (s₁.setTop (mkF m 85 #[rv a1, iv p2, iv (x0 &&& (255 : Int32)), iv ((x0 &&& (255 : Int32)) &&& (31 : Int32)), iv 2, iv 1] [(.int 1), (.int p2), (.ref a1), (.int (((x0 &&& (255 : Int32)) &&& (31 : Int32)) <<< ((6 : Int32) &&& 31)))]))
  refine Goes.on (fun t k => XS.iadd X0.here hx rfl (hb hby d1_85) rfl k) ?_
  show Goes p e below QQ (s₁.setTop (mkF m 86 #[rv a1, iv p2, iv (x0 &&& (255 : Int32)), iv ((x0 &&& (255 : Int32)) &&& (31 : Int32)), iv 2, iv 1] [(.int (p2 + (1 : Int32))), (.ref a1), (.int (((x0 &&& (255 : Int32)) &&& (31 : Int32)) <<< ((6 : Int32) &&& 31)))]))
  obtain ⟨cl2, Ar2, aq2, aS2, aN2, aH2, aG2⟩ := id V_a1
  have hin2 := inb_of (j := (p2 + (1 : Int32))) aS2 I1
  have hat2 := Has.at (v := (.int x1)) aH2 hin2 G1
  refine Goes.on (fun t k => X0.baloadBytes hx (j := (p2 + (1 : Int32))) (v := (.int x1)) (by rw [e0]; exact Ar2.1) (State.isArrayOf_alike hZ.alike Ar2.2.1) Ar2.2.2 hin2 hat2 (g := (mkF m 86 #[rv a1, iv p2, iv (x0 &&& (255 : Int32)), iv ((x0 &&& (255 : Int32)) &&& (31 : Int32)), iv 2, iv 1] [(.int (p2 + (1 : Int32))), (.ref a1), (.int (((x0 &&& (255 : Int32)) &&& (31 : Int32)) <<< ((6 : Int32) &&& 31)))])) rfl rfl (hb hby d1_86) t k) ?_
  show Goes p e below QQ (s₁.setTop (mkF m 87 #[rv a1, iv p2, iv (x0 &&& (255 : Int32)), iv ((x0 &&& (255 : Int32)) &&& (31 : Int32)), iv 2, iv 1] [(.int x1), (.int (((x0 &&& (255 : Int32)) &&& (31 : Int32)) <<< ((6 : Int32) &&& 31)))]))
  refine Goes.on (fun t k => XS.bipush X0.here hx rfl (hb hby d1_87) k) ?_
  show Goes p e below QQ (s₁.setTop (mkF m 89 #[rv a1, iv p2, iv (x0 &&& (255 : Int32)), iv ((x0 &&& (255 : Int32)) &&& (31 : Int32)), iv 2, iv 1] [(.int 63), (.int x1), (.int (((x0 &&& (255 : Int32)) &&& (31 : Int32)) <<< ((6 : Int32) &&& 31)))]))
  refine Goes.on (fun t k => XS.iand X0.here hx rfl (hb hby d1_89) rfl k) ?_
  show Goes p e below QQ (s₁.setTop (mkF m 90 #[rv a1, iv p2, iv (x0 &&& (255 : Int32)), iv ((x0 &&& (255 : Int32)) &&& (31 : Int32)), iv 2, iv 1] [(.int (x1 &&& (63 : Int32))), (.int (((x0 &&& (255 : Int32)) &&& (31 : Int32)) <<< ((6 : Int32) &&& 31)))]))
  refine Goes.on (fun t k => XS.ior X0.here hx rfl (hb hby d1_90) rfl k) ?_
  show Goes p e below QQ (s₁.setTop (mkF m 91 #[rv a1, iv p2, iv (x0 &&& (255 : Int32)), iv ((x0 &&& (255 : Int32)) &&& (31 : Int32)), iv 2, iv 1] [(.int ((((x0 &&& (255 : Int32)) &&& (31 : Int32)) <<< ((6 : Int32) &&& 31)) ||| (x1 &&& (63 : Int32))))]))
  refine Goes.on (fun t k => XS.istoreN X0.here hx rfl (hb hby d1_91) rfl (l' := #[rv a1, iv p2, iv (x0 &&& (255 : Int32)), iv ((((x0 &&& (255 : Int32)) &&& (31 : Int32)) <<< ((6 : Int32) &&& 31)) ||| (x1 &&& (63 : Int32))), iv 2, iv 1]) rfl k) ?_
  show Goes p e below QQ (s₁.setTop (mkF m 92 #[rv a1, iv p2, iv (x0 &&& (255 : Int32)), iv ((((x0 &&& (255 : Int32)) &&& (31 : Int32)) <<< ((6 : Int32) &&& 31)) ||| (x1 &&& (63 : Int32))), iv 2, iv 1] []))
  refine Goes.on (fun t k => XS.iinc X0.here hx rfl (hb hby d1_92) rfl (l' := #[rv a1, iv p2, iv (x0 &&& (255 : Int32)), iv ((((x0 &&& (255 : Int32)) &&& (31 : Int32)) <<< ((6 : Int32) &&& 31)) ||| (x1 &&& (63 : Int32))), iv 2, iv ((1 : Int32) + (1 : Int32))]) rfl k) ?_
  show Goes p e below QQ (s₁.setTop (mkF m 95 #[rv a1, iv p2, iv (x0 &&& (255 : Int32)), iv ((((x0 &&& (255 : Int32)) &&& (31 : Int32)) <<< ((6 : Int32) &&& 31)) ||| (x1 &&& (63 : Int32))), iv 2, iv ((1 : Int32) + (1 : Int32))] []))
  rw [(by decide : ((1 : Int32) + (1 : Int32)) = (2 : Int32))]
  show Goes p e below QQ (s₁.setTop (mkF m 95 #[rv a1, iv p2, iv (x0 &&& (255 : Int32)), iv ((((x0 &&& (255 : Int32)) &&& (31 : Int32)) <<< ((6 : Int32) &&& 31)) ||| (x1 &&& (63 : Int32))), iv 2, iv 2] []))
  refine Goes.on (fun t k => XS.goto X0.here hx rfl (pc0 := 95) (pc' := 70) rfl (hb hby d1_95) (by decide) (by decide) k) ?_
  show Goes p e below QQ (s₁.setTop (mkF m 70 #[rv a1, iv p2, iv (x0 &&& (255 : Int32)), iv ((((x0 &&& (255 : Int32)) &&& (31 : Int32)) <<< ((6 : Int32) &&& 31)) ||| (x1 &&& (63 : Int32))), iv 2, iv 2] []))
  refine Goes.on (fun t k => XS.iload X0.here hx rfl (hb hby d1_70) rfl k) ?_
  show Goes p e below QQ (s₁.setTop (mkF m 72 #[rv a1, iv p2, iv (x0 &&& (255 : Int32)), iv ((((x0 &&& (255 : Int32)) &&& (31 : Int32)) <<< ((6 : Int32) &&& 31)) ||| (x1 &&& (63 : Int32))), iv 2, iv 2] [(.int 2)]))
  refine Goes.on (fun t k => XS.iload X0.here hx rfl (hb hby d1_72) rfl k) ?_
  show Goes p e below QQ (s₁.setTop (mkF m 74 #[rv a1, iv p2, iv (x0 &&& (255 : Int32)), iv ((((x0 &&& (255 : Int32)) &&& (31 : Int32)) <<< ((6 : Int32) &&& 31)) ||| (x1 &&& (63 : Int32))), iv 2, iv 2] [(.int 2), (.int 2)]))
  refine Goes.on (fun t k => XS.icmpYes X0.here hx rfl (pc0 := 74) (pc' := 98) rfl (hb hby d1_74) rfl (flt (by decide)).2.1 (by decide) (by decide) k) ?_
  show Goes p e below QQ (s₁.setTop (mkF m 98 #[rv a1, iv p2, iv (x0 &&& (255 : Int32)), iv ((((x0 &&& (255 : Int32)) &&& (31 : Int32)) <<< ((6 : Int32) &&& 31)) ||| (x1 &&& (63 : Int32))), iv 2, iv 2] []))
  refine Goes.on (fun t k => XS.iloadN X0.here hx rfl (hb hby d1_98) rfl k) ?_
  show Goes p e below QQ (s₁.setTop (mkF m 99 #[rv a1, iv p2, iv (x0 &&& (255 : Int32)), iv ((((x0 &&& (255 : Int32)) &&& (31 : Int32)) <<< ((6 : Int32) &&& 31)) ||| (x1 &&& (63 : Int32))), iv 2, iv 2] [(.int ((((x0 &&& (255 : Int32)) &&& (31 : Int32)) <<< ((6 : Int32) &&& 31)) ||| (x1 &&& (63 : Int32))))]))
  exact Goes.rI X0 hx hret hlk (hb hby d1_99) hQQ ⟨rfl, N0, e0⟩ (by decide) (by decide)
theorem ef_rm1_3 (m : MethodId) (x0 : Addr) (x1 : Int32) : entryFrame m #[(.ref x0), (.int x1)] 6 = mkF m 0 #[rv x0, iv x1, .unset, .unset, .unset, .unset] [] := by first | (simp [entryFrame, mkF, argsToLocals, Value.category]; done) | rfl
set_option maxRecDepth 65536 in
set_option maxHeartbeats 40000000 in
theorem rm1_3 (l : Launch) (Z : State) (a0 : Array Value) (hw : ∀ d ∈ tables_1, d.before a0 Z = true) (ws : List Jvm.Cond) (a1 : Addr) (p2 : Int32) (kk : ClassId) (zz : Int32) (vs : List Value) (x0 x1 x2 : Int32) (h0 : Heap) (n0 : Nat) (Z0 : n0 ≤ h0.size) (V_a1 : Arv Z h0 a1 kk .byte zz vs (.int 0)) (I0 : ¬ p2 < 0 ∧ p2 < zz) (G0 : vs.getD (p2).toNatClampNeg (.int (0 : Int32)) = .int x0) (I1 : ¬ (p2 + (1 : Int32)) < 0 ∧ (p2 + (1 : Int32)) < zz) (G1 : vs.getD ((p2 + (1 : Int32))).toNatClampNeg (.int (0 : Int32)) = .int x1) (I2 : ¬ (p2 + (2 : Int32)) < 0 ∧ (p2 + (2 : Int32)) < zz) (G2 : vs.getD ((p2 + (2 : Int32))).toNatClampNeg (.int (0 : Int32)) = .int x2) (H0 : ¬ (x0 &&& (255 : Int32)) < (128 : Int32)) (H1 : ¬ (x0 &&& (255 : Int32)) < (224 : Int32)) (H2 : (x0 &&& (255 : Int32)) < (240 : Int32)) :
    MetFree l (⟨"com/example/sober_links/soberlinks/io/Utf8", "codePointAt", "([BI)I"⟩ : MethodName) (head1 (Jvm.Cond.code (⟨"com/example/sober_links/soberlinks/io/Utf8", "codePointAt", "([BI)I"⟩ : MethodName) prog_93_method_4_code 6 (some .int) :: ws) ({ frames := 0, cells := 0, slots := 0, locals := 0 } : Room)) (fun a U => a = #[(.ref a1), (.int p2)] ∧ Z.Warmed39 U.vm ∧ U.heap = h0) (fun _ _ _ _ _ => True) (fun _ U o U' => ∃ v L, o = .returned v ∧ QP (.int ((((((x0 &&& (255 : Int32)) &&& (15 : Int32)) <<< ((6 : Int32) &&& 31)) ||| (x1 &&& (63 : Int32))) <<< ((6 : Int32) &&& 31)) ||| (x2 &&& (63 : Int32)))) h0 n0 v U'.heap L ∧ FrameEnd U o U' L ({ frames := 0, cells := 0, slots := 0, locals := 0 } : Room).cells ({ frames := 0, cells := 0, slots := 0, locals := 0 } : Room).slots) := by
  refine own_enter pn_1 ?_
  intro p e s m below meth c s₁ QQ hQQ hx hby hml hown hnm hret hlk hZ X0 e0
  have hown : s.vm.findClass "com/example/sober_links/soberlinks/io/Utf8" = some m.cls := hown
  have hml : c.maxLocals = 6 := hml
  have hret : meth.sig.returnType = some .int := hret
  have N0 := Fr.nil n0
  have K0 := Keep.refl h0 []
  refine Goes.cast (ef_rm1_3 m a1 p2) ?_
  show Goes p e below QQ (s₁.setTop (mkF m 0 #[rv a1, iv p2, .unset, .unset, .unset, .unset] []))
  refine Goes.on (fun t k => XS.aloadN X0.here hx rfl (hb hby d1_0) rfl rfl k) ?_
  show Goes p e below QQ (s₁.setTop (mkF m 1 #[rv a1, iv p2, .unset, .unset, .unset, .unset] [(.ref a1)]))
  refine Goes.on (fun t k => XS.iloadN X0.here hx rfl (hb hby d1_1) rfl k) ?_
  show Goes p e below QQ (s₁.setTop (mkF m 2 #[rv a1, iv p2, .unset, .unset, .unset, .unset] [(.int p2), (.ref a1)]))
  obtain ⟨cl1, Ar1, aq1, aS1, aN1, aH1, aG1⟩ := id V_a1
  have hin1 := inb_of (j := p2) aS1 I0
  have hat1 := Has.at (v := (.int x0)) aH1 hin1 G0
  refine Goes.on (fun t k => X0.baloadBytes hx (j := p2) (v := (.int x0)) (by rw [e0]; exact Ar1.1) (State.isArrayOf_alike hZ.alike Ar1.2.1) Ar1.2.2 hin1 hat1 (g := (mkF m 2 #[rv a1, iv p2, .unset, .unset, .unset, .unset] [(.int p2), (.ref a1)])) rfl rfl (hb hby d1_2) t k) ?_
  show Goes p e below QQ (s₁.setTop (mkF m 3 #[rv a1, iv p2, .unset, .unset, .unset, .unset] [(.int x0)]))
  refine Goes.on (fun t k => XS.sipush X0.here hx rfl (hb hby d1_3) k) ?_
  show Goes p e below QQ (s₁.setTop (mkF m 6 #[rv a1, iv p2, .unset, .unset, .unset, .unset] [(.int 255), (.int x0)]))
  refine Goes.on (fun t k => XS.iand X0.here hx rfl (hb hby d1_6) rfl k) ?_
  show Goes p e below QQ (s₁.setTop (mkF m 7 #[rv a1, iv p2, .unset, .unset, .unset, .unset] [(.int (x0 &&& (255 : Int32)))]))
  refine Goes.on (fun t k => XS.istoreN X0.here hx rfl (hb hby d1_7) rfl (l' := #[rv a1, iv p2, iv (x0 &&& (255 : Int32)), .unset, .unset, .unset]) rfl k) ?_
  show Goes p e below QQ (s₁.setTop (mkF m 8 #[rv a1, iv p2, iv (x0 &&& (255 : Int32)), .unset, .unset, .unset] []))
  refine Goes.on (fun t k => XS.iloadN X0.here hx rfl (hb hby d1_8) rfl k) ?_
  show Goes p e below QQ (s₁.setTop (mkF m 9 #[rv a1, iv p2, iv (x0 &&& (255 : Int32)), .unset, .unset, .unset] [(.int (x0 &&& (255 : Int32)))]))
  refine Goes.on (fun t k => XS.sipush X0.here hx rfl (hb hby d1_9) k) ?_
  show Goes p e below QQ (s₁.setTop (mkF m 12 #[rv a1, iv p2, iv (x0 &&& (255 : Int32)), .unset, .unset, .unset] [(.int 128), (.int (x0 &&& (255 : Int32)))]))
  refine Goes.on (fun t k => XS.icmpYes X0.here hx rfl (pc0 := 12) (pc' := 23) rfl (hb hby d1_12) rfl (flt H0).2.1 (by decide) (by decide) k) ?_
  show Goes p e below QQ (s₁.setTop (mkF m 23 #[rv a1, iv p2, iv (x0 &&& (255 : Int32)), .unset, .unset, .unset] []))
  refine Goes.on (fun t k => XS.iloadN X0.here hx rfl (hb hby d1_23) rfl k) ?_
  show Goes p e below QQ (s₁.setTop (mkF m 24 #[rv a1, iv p2, iv (x0 &&& (255 : Int32)), .unset, .unset, .unset] [(.int (x0 &&& (255 : Int32)))]))
  refine Goes.on (fun t k => XS.sipush X0.here hx rfl (hb hby d1_24) k) ?_
  show Goes p e below QQ (s₁.setTop (mkF m 27 #[rv a1, iv p2, iv (x0 &&& (255 : Int32)), .unset, .unset, .unset] [(.int 224), (.int (x0 &&& (255 : Int32)))]))
  refine Goes.on (fun t k => XS.icmpYes X0.here hx rfl (pc0 := 27) (pc' := 41) rfl (hb hby d1_27) rfl (flt H1).2.1 (by decide) (by decide) k) ?_
  show Goes p e below QQ (s₁.setTop (mkF m 41 #[rv a1, iv p2, iv (x0 &&& (255 : Int32)), .unset, .unset, .unset] []))
  refine Goes.on (fun t k => XS.iloadN X0.here hx rfl (hb hby d1_41) rfl k) ?_
  show Goes p e below QQ (s₁.setTop (mkF m 42 #[rv a1, iv p2, iv (x0 &&& (255 : Int32)), .unset, .unset, .unset] [(.int (x0 &&& (255 : Int32)))]))
  refine Goes.on (fun t k => XS.sipush X0.here hx rfl (hb hby d1_42) k) ?_
  show Goes p e below QQ (s₁.setTop (mkF m 45 #[rv a1, iv p2, iv (x0 &&& (255 : Int32)), .unset, .unset, .unset] [(.int 240), (.int (x0 &&& (255 : Int32)))]))
  refine Goes.on (fun t k => XS.icmpNo X0.here hx rfl (hb hby d1_45) rfl (tlt H2).2.1 k) ?_
  show Goes p e below QQ (s₁.setTop (mkF m 48 #[rv a1, iv p2, iv (x0 &&& (255 : Int32)), .unset, .unset, .unset] []))
  refine Goes.on (fun t k => XS.iloadN X0.here hx rfl (hb hby d1_48) rfl k) ?_
  show Goes p e below QQ (s₁.setTop (mkF m 49 #[rv a1, iv p2, iv (x0 &&& (255 : Int32)), .unset, .unset, .unset] [(.int (x0 &&& (255 : Int32)))]))
  refine Goes.on (fun t k => XS.bipush X0.here hx rfl (hb hby d1_49) k) ?_
  show Goes p e below QQ (s₁.setTop (mkF m 51 #[rv a1, iv p2, iv (x0 &&& (255 : Int32)), .unset, .unset, .unset] [(.int 15), (.int (x0 &&& (255 : Int32)))]))
  refine Goes.on (fun t k => XS.iand X0.here hx rfl (hb hby d1_51) rfl k) ?_
  show Goes p e below QQ (s₁.setTop (mkF m 52 #[rv a1, iv p2, iv (x0 &&& (255 : Int32)), .unset, .unset, .unset] [(.int ((x0 &&& (255 : Int32)) &&& (15 : Int32)))]))
  refine Goes.on (fun t k => XS.istoreN X0.here hx rfl (hb hby d1_52) rfl (l' := #[rv a1, iv p2, iv (x0 &&& (255 : Int32)), iv ((x0 &&& (255 : Int32)) &&& (15 : Int32)), .unset, .unset]) rfl k) ?_
  show Goes p e below QQ (s₁.setTop (mkF m 53 #[rv a1, iv p2, iv (x0 &&& (255 : Int32)), iv ((x0 &&& (255 : Int32)) &&& (15 : Int32)), .unset, .unset] []))
  refine Goes.on (fun t k => XS.iconst X0.here hx rfl (hb hby d1_53) k) ?_
  show Goes p e below QQ (s₁.setTop (mkF m 54 #[rv a1, iv p2, iv (x0 &&& (255 : Int32)), iv ((x0 &&& (255 : Int32)) &&& (15 : Int32)), .unset, .unset] [(.int 3)]))
  refine Goes.on (fun t k => XS.istore X0.here hx rfl (hb hby d1_54) rfl (l' := #[rv a1, iv p2, iv (x0 &&& (255 : Int32)), iv ((x0 &&& (255 : Int32)) &&& (15 : Int32)), iv 3, .unset]) rfl k) ?_
  show Goes p e below QQ (s₁.setTop (mkF m 56 #[rv a1, iv p2, iv (x0 &&& (255 : Int32)), iv ((x0 &&& (255 : Int32)) &&& (15 : Int32)), iv 3, .unset] []))
  refine Goes.on (fun t k => XS.goto X0.here hx rfl (pc0 := 56) (pc' := 67) rfl (hb hby d1_56) (by decide) (by decide) k) ?_
  show Goes p e below QQ (s₁.setTop (mkF m 67 #[rv a1, iv p2, iv (x0 &&& (255 : Int32)), iv ((x0 &&& (255 : Int32)) &&& (15 : Int32)), iv 3, .unset] []))
  refine Goes.on (fun t k => XS.iconst X0.here hx rfl (hb hby d1_67) k) ?_
  show Goes p e below QQ (s₁.setTop (mkF m 68 #[rv a1, iv p2, iv (x0 &&& (255 : Int32)), iv ((x0 &&& (255 : Int32)) &&& (15 : Int32)), iv 3, .unset] [(.int 1)]))
  refine Goes.on (fun t k => XS.istore X0.here hx rfl (hb hby d1_68) rfl (l' := #[rv a1, iv p2, iv (x0 &&& (255 : Int32)), iv ((x0 &&& (255 : Int32)) &&& (15 : Int32)), iv 3, iv 1]) rfl k) ?_
  show Goes p e below QQ (s₁.setTop (mkF m 70 #[rv a1, iv p2, iv (x0 &&& (255 : Int32)), iv ((x0 &&& (255 : Int32)) &&& (15 : Int32)), iv 3, iv 1] []))
  refine Goes.on (fun t k => XS.iload X0.here hx rfl (hb hby d1_70) rfl k) ?_
  show Goes p e below QQ (s₁.setTop (mkF m 72 #[rv a1, iv p2, iv (x0 &&& (255 : Int32)), iv ((x0 &&& (255 : Int32)) &&& (15 : Int32)), iv 3, iv 1] [(.int 1)]))
  refine Goes.on (fun t k => XS.iload X0.here hx rfl (hb hby d1_72) rfl k) ?_
  show Goes p e below QQ (s₁.setTop (mkF m 74 #[rv a1, iv p2, iv (x0 &&& (255 : Int32)), iv ((x0 &&& (255 : Int32)) &&& (15 : Int32)), iv 3, iv 1] [(.int 3), (.int 1)]))
  refine Goes.on (fun t k => XS.icmpNo X0.here hx rfl (hb hby d1_74) rfl (tlt (by decide)).2.1 k) ?_
  show Goes p e below QQ (s₁.setTop (mkF m 77 #[rv a1, iv p2, iv (x0 &&& (255 : Int32)), iv ((x0 &&& (255 : Int32)) &&& (15 : Int32)), iv 3, iv 1] []))
  refine Goes.on (fun t k => XS.iloadN X0.here hx rfl (hb hby d1_77) rfl k) ?_
  show Goes p e below QQ (s₁.setTop (mkF m 78 #[rv a1, iv p2, iv (x0 &&& (255 : Int32)), iv ((x0 &&& (255 : Int32)) &&& (15 : Int32)), iv 3, iv 1] [(.int ((x0 &&& (255 : Int32)) &&& (15 : Int32)))]))
  refine Goes.on (fun t k => XS.bipush X0.here hx rfl (hb hby d1_78) k) ?_
  show Goes p e below QQ (s₁.setTop (mkF m 80 #[rv a1, iv p2, iv (x0 &&& (255 : Int32)), iv ((x0 &&& (255 : Int32)) &&& (15 : Int32)), iv 3, iv 1] [(.int 6), (.int ((x0 &&& (255 : Int32)) &&& (15 : Int32)))]))
  refine Goes.on (fun t k => XS.ishl X0.here hx rfl (hb hby d1_80) rfl k) ?_
  show Goes p e below QQ (s₁.setTop (mkF m 81 #[rv a1, iv p2, iv (x0 &&& (255 : Int32)), iv ((x0 &&& (255 : Int32)) &&& (15 : Int32)), iv 3, iv 1] [(.int (((x0 &&& (255 : Int32)) &&& (15 : Int32)) <<< ((6 : Int32) &&& 31)))]))
  refine Goes.on (fun t k => XS.aloadN X0.here hx rfl (hb hby d1_81) rfl rfl k) ?_
  show Goes p e below QQ (s₁.setTop (mkF m 82 #[rv a1, iv p2, iv (x0 &&& (255 : Int32)), iv ((x0 &&& (255 : Int32)) &&& (15 : Int32)), iv 3, iv 1] [(.ref a1), (.int (((x0 &&& (255 : Int32)) &&& (15 : Int32)) <<< ((6 : Int32) &&& 31)))]))
  refine Goes.on (fun t k => XS.iloadN X0.here hx rfl (hb hby d1_82) rfl k) ?_
  show Goes p e below QQ (s₁.setTop (mkF m 83 #[rv a1, iv p2, iv (x0 &&& (255 : Int32)), iv ((x0 &&& (255 : Int32)) &&& (15 : Int32)), iv 3, iv 1] [(.int p2), (.ref a1), (.int (((x0 &&& (255 : Int32)) &&& (15 : Int32)) <<< ((6 : Int32) &&& 31)))]))
  refine Goes.on (fun t k => XS.iload X0.here hx rfl (hb hby d1_83) rfl k) ?_
  show Goes p e below QQ (s₁.setTop (mkF m 85 #[rv a1, iv p2, iv (x0 &&& (255 : Int32)), iv ((x0 &&& (255 : Int32)) &&& (15 : Int32)), iv 3, iv 1] [(.int 1), (.int p2), (.ref a1), (.int (((x0 &&& (255 : Int32)) &&& (15 : Int32)) <<< ((6 : Int32) &&& 31)))]))
  refine Goes.on (fun t k => XS.iadd X0.here hx rfl (hb hby d1_85) rfl k) ?_
  show Goes p e below QQ (s₁.setTop (mkF m 86 #[rv a1, iv p2, iv (x0 &&& (255 : Int32)), iv ((x0 &&& (255 : Int32)) &&& (15 : Int32)), iv 3, iv 1] [(.int (p2 + (1 : Int32))), (.ref a1), (.int (((x0 &&& (255 : Int32)) &&& (15 : Int32)) <<< ((6 : Int32) &&& 31)))]))
  obtain ⟨cl2, Ar2, aq2, aS2, aN2, aH2, aG2⟩ := id V_a1
  have hin2 := inb_of (j := (p2 + (1 : Int32))) aS2 I1
  have hat2 := Has.at (v := (.int x1)) aH2 hin2 G1
  refine Goes.on (fun t k => X0.baloadBytes hx (j := (p2 + (1 : Int32))) (v := (.int x1)) (by rw [e0]; exact Ar2.1) (State.isArrayOf_alike hZ.alike Ar2.2.1) Ar2.2.2 hin2 hat2 (g := (mkF m 86 #[rv a1, iv p2, iv (x0 &&& (255 : Int32)), iv ((x0 &&& (255 : Int32)) &&& (15 : Int32)), iv 3, iv 1] [(.int (p2 + (1 : Int32))), (.ref a1), (.int (((x0 &&& (255 : Int32)) &&& (15 : Int32)) <<< ((6 : Int32) &&& 31)))])) rfl rfl (hb hby d1_86) t k) ?_
  show Goes p e below QQ (s₁.setTop (mkF m 87 #[rv a1, iv p2, iv (x0 &&& (255 : Int32)), iv ((x0 &&& (255 : Int32)) &&& (15 : Int32)), iv 3, iv 1] [(.int x1), (.int (((x0 &&& (255 : Int32)) &&& (15 : Int32)) <<< ((6 : Int32) &&& 31)))]))
  refine Goes.on (fun t k => XS.bipush X0.here hx rfl (hb hby d1_87) k) ?_
  show Goes p e below QQ (s₁.setTop (mkF m 89 #[rv a1, iv p2, iv (x0 &&& (255 : Int32)), iv ((x0 &&& (255 : Int32)) &&& (15 : Int32)), iv 3, iv 1] [(.int 63), (.int x1), (.int (((x0 &&& (255 : Int32)) &&& (15 : Int32)) <<< ((6 : Int32) &&& 31)))]))
  refine Goes.on (fun t k => XS.iand X0.here hx rfl (hb hby d1_89) rfl k) ?_
  show Goes p e below QQ (s₁.setTop (mkF m 90 #[rv a1, iv p2, iv (x0 &&& (255 : Int32)), iv ((x0 &&& (255 : Int32)) &&& (15 : Int32)), iv 3, iv 1] [(.int (x1 &&& (63 : Int32))), (.int (((x0 &&& (255 : Int32)) &&& (15 : Int32)) <<< ((6 : Int32) &&& 31)))]))
  refine Goes.on (fun t k => XS.ior X0.here hx rfl (hb hby d1_90) rfl k) ?_
  show Goes p e below QQ (s₁.setTop (mkF m 91 #[rv a1, iv p2, iv (x0 &&& (255 : Int32)), iv ((x0 &&& (255 : Int32)) &&& (15 : Int32)), iv 3, iv 1] [(.int ((((x0 &&& (255 : Int32)) &&& (15 : Int32)) <<< ((6 : Int32) &&& 31)) ||| (x1 &&& (63 : Int32))))]))
  refine Goes.on (fun t k => XS.istoreN X0.here hx rfl (hb hby d1_91) rfl (l' := #[rv a1, iv p2, iv (x0 &&& (255 : Int32)), iv ((((x0 &&& (255 : Int32)) &&& (15 : Int32)) <<< ((6 : Int32) &&& 31)) ||| (x1 &&& (63 : Int32))), iv 3, iv 1]) rfl k) ?_
  show Goes p e below QQ (s₁.setTop (mkF m 92 #[rv a1, iv p2, iv (x0 &&& (255 : Int32)), iv ((((x0 &&& (255 : Int32)) &&& (15 : Int32)) <<< ((6 : Int32) &&& 31)) ||| (x1 &&& (63 : Int32))), iv 3, iv 1] []))
  refine Goes.on (fun t k => XS.iinc X0.here hx rfl (hb hby d1_92) rfl (l' := #[rv a1, iv p2, iv (x0 &&& (255 : Int32)), iv ((((x0 &&& (255 : Int32)) &&& (15 : Int32)) <<< ((6 : Int32) &&& 31)) ||| (x1 &&& (63 : Int32))), iv 3, iv ((1 : Int32) + (1 : Int32))]) rfl k) ?_
  show Goes p e below QQ (s₁.setTop (mkF m 95 #[rv a1, iv p2, iv (x0 &&& (255 : Int32)), iv ((((x0 &&& (255 : Int32)) &&& (15 : Int32)) <<< ((6 : Int32) &&& 31)) ||| (x1 &&& (63 : Int32))), iv 3, iv ((1 : Int32) + (1 : Int32))] []))
  rw [(by decide : ((1 : Int32) + (1 : Int32)) = (2 : Int32))]
  show Goes p e below QQ (s₁.setTop (mkF m 95 #[rv a1, iv p2, iv (x0 &&& (255 : Int32)), iv ((((x0 &&& (255 : Int32)) &&& (15 : Int32)) <<< ((6 : Int32) &&& 31)) ||| (x1 &&& (63 : Int32))), iv 3, iv 2] []))
  refine Goes.on (fun t k => XS.goto X0.here hx rfl (pc0 := 95) (pc' := 70) rfl (hb hby d1_95) (by decide) (by decide) k) ?_
  show Goes p e below QQ (s₁.setTop (mkF m 70 #[rv a1, iv p2, iv (x0 &&& (255 : Int32)), iv ((((x0 &&& (255 : Int32)) &&& (15 : Int32)) <<< ((6 : Int32) &&& 31)) ||| (x1 &&& (63 : Int32))), iv 3, iv 2] []))
  refine Goes.on (fun t k => XS.iload X0.here hx rfl (hb hby d1_70) rfl k) ?_
  show Goes p e below QQ (s₁.setTop (mkF m 72 #[rv a1, iv p2, iv (x0 &&& (255 : Int32)), iv ((((x0 &&& (255 : Int32)) &&& (15 : Int32)) <<< ((6 : Int32) &&& 31)) ||| (x1 &&& (63 : Int32))), iv 3, iv 2] [(.int 2)]))
  refine Goes.on (fun t k => XS.iload X0.here hx rfl (hb hby d1_72) rfl k) ?_
  show Goes p e below QQ (s₁.setTop (mkF m 74 #[rv a1, iv p2, iv (x0 &&& (255 : Int32)), iv ((((x0 &&& (255 : Int32)) &&& (15 : Int32)) <<< ((6 : Int32) &&& 31)) ||| (x1 &&& (63 : Int32))), iv 3, iv 2] [(.int 3), (.int 2)]))
  refine Goes.on (fun t k => XS.icmpNo X0.here hx rfl (hb hby d1_74) rfl (tlt (by decide)).2.1 k) ?_
  show Goes p e below QQ (s₁.setTop (mkF m 77 #[rv a1, iv p2, iv (x0 &&& (255 : Int32)), iv ((((x0 &&& (255 : Int32)) &&& (15 : Int32)) <<< ((6 : Int32) &&& 31)) ||| (x1 &&& (63 : Int32))), iv 3, iv 2] []))
  refine Goes.on (fun t k => XS.iloadN X0.here hx rfl (hb hby d1_77) rfl k) ?_
  show Goes p e below QQ (s₁.setTop (mkF m 78 #[rv a1, iv p2, iv (x0 &&& (255 : Int32)), iv ((((x0 &&& (255 : Int32)) &&& (15 : Int32)) <<< ((6 : Int32) &&& 31)) ||| (x1 &&& (63 : Int32))), iv 3, iv 2] [(.int ((((x0 &&& (255 : Int32)) &&& (15 : Int32)) <<< ((6 : Int32) &&& 31)) ||| (x1 &&& (63 : Int32))))]))
  refine Goes.on (fun t k => XS.bipush X0.here hx rfl (hb hby d1_78) k) ?_
  show Goes p e below QQ (s₁.setTop (mkF m 80 #[rv a1, iv p2, iv (x0 &&& (255 : Int32)), iv ((((x0 &&& (255 : Int32)) &&& (15 : Int32)) <<< ((6 : Int32) &&& 31)) ||| (x1 &&& (63 : Int32))), iv 3, iv 2] [(.int 6), (.int ((((x0 &&& (255 : Int32)) &&& (15 : Int32)) <<< ((6 : Int32) &&& 31)) ||| (x1 &&& (63 : Int32))))]))
  refine Goes.on (fun t k => XS.ishl X0.here hx rfl (hb hby d1_80) rfl k) ?_
  show Goes p e below QQ (s₁.setTop (mkF m 81 #[rv a1, iv p2, iv (x0 &&& (255 : Int32)), iv ((((x0 &&& (255 : Int32)) &&& (15 : Int32)) <<< ((6 : Int32) &&& 31)) ||| (x1 &&& (63 : Int32))), iv 3, iv 2] [(.int (((((x0 &&& (255 : Int32)) &&& (15 : Int32)) <<< ((6 : Int32) &&& 31)) ||| (x1 &&& (63 : Int32))) <<< ((6 : Int32) &&& 31)))]))
  refine Goes.on (fun t k => XS.aloadN X0.here hx rfl (hb hby d1_81) rfl rfl k) ?_
  show Goes p e below QQ (s₁.setTop (mkF m 82 #[rv a1, iv p2, iv (x0 &&& (255 : Int32)), iv ((((x0 &&& (255 : Int32)) &&& (15 : Int32)) <<< ((6 : Int32) &&& 31)) ||| (x1 &&& (63 : Int32))), iv 3, iv 2] [(.ref a1), (.int (((((x0 &&& (255 : Int32)) &&& (15 : Int32)) <<< ((6 : Int32) &&& 31)) ||| (x1 &&& (63 : Int32))) <<< ((6 : Int32) &&& 31)))]))
  refine Goes.on (fun t k => XS.iloadN X0.here hx rfl (hb hby d1_82) rfl k) ?_
  show Goes p e below QQ (s₁.setTop (mkF m 83 #[rv a1, iv p2, iv (x0 &&& (255 : Int32)), iv ((((x0 &&& (255 : Int32)) &&& (15 : Int32)) <<< ((6 : Int32) &&& 31)) ||| (x1 &&& (63 : Int32))), iv 3, iv 2] [(.int p2), (.ref a1), (.int (((((x0 &&& (255 : Int32)) &&& (15 : Int32)) <<< ((6 : Int32) &&& 31)) ||| (x1 &&& (63 : Int32))) <<< ((6 : Int32) &&& 31)))]))
  refine Goes.on (fun t k => XS.iload X0.here hx rfl (hb hby d1_83) rfl k) ?_
  show Goes p e below QQ (s₁.setTop (mkF m 85 #[rv a1, iv p2, iv (x0 &&& (255 : Int32)), iv ((((x0 &&& (255 : Int32)) &&& (15 : Int32)) <<< ((6 : Int32) &&& 31)) ||| (x1 &&& (63 : Int32))), iv 3, iv 2] [(.int 2), (.int p2), (.ref a1), (.int (((((x0 &&& (255 : Int32)) &&& (15 : Int32)) <<< ((6 : Int32) &&& 31)) ||| (x1 &&& (63 : Int32))) <<< ((6 : Int32) &&& 31)))]))
  refine Goes.on (fun t k => XS.iadd X0.here hx rfl (hb hby d1_85) rfl k) ?_
  show Goes p e below QQ (s₁.setTop (mkF m 86 #[rv a1, iv p2, iv (x0 &&& (255 : Int32)), iv ((((x0 &&& (255 : Int32)) &&& (15 : Int32)) <<< ((6 : Int32) &&& 31)) ||| (x1 &&& (63 : Int32))), iv 3, iv 2] [(.int (p2 + (2 : Int32))), (.ref a1), (.int (((((x0 &&& (255 : Int32)) &&& (15 : Int32)) <<< ((6 : Int32) &&& 31)) ||| (x1 &&& (63 : Int32))) <<< ((6 : Int32) &&& 31)))]))
  obtain ⟨cl3, Ar3, aq3, aS3, aN3, aH3, aG3⟩ := id V_a1
  have hin3 := inb_of (j := (p2 + (2 : Int32))) aS3 I2
  have hat3 := Has.at (v := (.int x2)) aH3 hin3 G2
  refine Goes.on (fun t k => X0.baloadBytes hx (j := (p2 + (2 : Int32))) (v := (.int x2)) (by rw [e0]; exact Ar3.1) (State.isArrayOf_alike hZ.alike Ar3.2.1) Ar3.2.2 hin3 hat3 (g := (mkF m 86 #[rv a1, iv p2, iv (x0 &&& (255 : Int32)), iv ((((x0 &&& (255 : Int32)) &&& (15 : Int32)) <<< ((6 : Int32) &&& 31)) ||| (x1 &&& (63 : Int32))), iv 3, iv 2] [(.int (p2 + (2 : Int32))), (.ref a1), (.int (((((x0 &&& (255 : Int32)) &&& (15 : Int32)) <<< ((6 : Int32) &&& 31)) ||| (x1 &&& (63 : Int32))) <<< ((6 : Int32) &&& 31)))])) rfl rfl (hb hby d1_86) t k) ?_
  show Goes p e below QQ (s₁.setTop (mkF m 87 #[rv a1, iv p2, iv (x0 &&& (255 : Int32)), iv ((((x0 &&& (255 : Int32)) &&& (15 : Int32)) <<< ((6 : Int32) &&& 31)) ||| (x1 &&& (63 : Int32))), iv 3, iv 2] [(.int x2), (.int (((((x0 &&& (255 : Int32)) &&& (15 : Int32)) <<< ((6 : Int32) &&& 31)) ||| (x1 &&& (63 : Int32))) <<< ((6 : Int32) &&& 31)))]))
  refine Goes.on (fun t k => XS.bipush X0.here hx rfl (hb hby d1_87) k) ?_
  show Goes p e below QQ (s₁.setTop (mkF m 89 #[rv a1, iv p2, iv (x0 &&& (255 : Int32)), iv ((((x0 &&& (255 : Int32)) &&& (15 : Int32)) <<< ((6 : Int32) &&& 31)) ||| (x1 &&& (63 : Int32))), iv 3, iv 2] [(.int 63), (.int x2), (.int (((((x0 &&& (255 : Int32)) &&& (15 : Int32)) <<< ((6 : Int32) &&& 31)) ||| (x1 &&& (63 : Int32))) <<< ((6 : Int32) &&& 31)))]))
  refine Goes.on (fun t k => XS.iand X0.here hx rfl (hb hby d1_89) rfl k) ?_
  show Goes p e below QQ (s₁.setTop (mkF m 90 #[rv a1, iv p2, iv (x0 &&& (255 : Int32)), iv ((((x0 &&& (255 : Int32)) &&& (15 : Int32)) <<< ((6 : Int32) &&& 31)) ||| (x1 &&& (63 : Int32))), iv 3, iv 2] [(.int (x2 &&& (63 : Int32))), (.int (((((x0 &&& (255 : Int32)) &&& (15 : Int32)) <<< ((6 : Int32) &&& 31)) ||| (x1 &&& (63 : Int32))) <<< ((6 : Int32) &&& 31)))]))
  refine Goes.on (fun t k => XS.ior X0.here hx rfl (hb hby d1_90) rfl k) ?_
  show Goes p e below QQ (s₁.setTop (mkF m 91 #[rv a1, iv p2, iv (x0 &&& (255 : Int32)), iv ((((x0 &&& (255 : Int32)) &&& (15 : Int32)) <<< ((6 : Int32) &&& 31)) ||| (x1 &&& (63 : Int32))), iv 3, iv 2] [(.int ((((((x0 &&& (255 : Int32)) &&& (15 : Int32)) <<< ((6 : Int32) &&& 31)) ||| (x1 &&& (63 : Int32))) <<< ((6 : Int32) &&& 31)) ||| (x2 &&& (63 : Int32))))]))
  refine Goes.on (fun t k => XS.istoreN X0.here hx rfl (hb hby d1_91) rfl (l' := #[rv a1, iv p2, iv (x0 &&& (255 : Int32)), iv ((((((x0 &&& (255 : Int32)) &&& (15 : Int32)) <<< ((6 : Int32) &&& 31)) ||| (x1 &&& (63 : Int32))) <<< ((6 : Int32) &&& 31)) ||| (x2 &&& (63 : Int32))), iv 3, iv 2]) rfl k) ?_
  show Goes p e below QQ (s₁.setTop (mkF m 92 #[rv a1, iv p2, iv (x0 &&& (255 : Int32)), iv ((((((x0 &&& (255 : Int32)) &&& (15 : Int32)) <<< ((6 : Int32) &&& 31)) ||| (x1 &&& (63 : Int32))) <<< ((6 : Int32) &&& 31)) ||| (x2 &&& (63 : Int32))), iv 3, iv 2] []))
  refine Goes.on (fun t k => XS.iinc X0.here hx rfl (hb hby d1_92) rfl (l' := #[rv a1, iv p2, iv (x0 &&& (255 : Int32)), iv ((((((x0 &&& (255 : Int32)) &&& (15 : Int32)) <<< ((6 : Int32) &&& 31)) ||| (x1 &&& (63 : Int32))) <<< ((6 : Int32) &&& 31)) ||| (x2 &&& (63 : Int32))), iv 3, iv ((2 : Int32) + (1 : Int32))]) rfl k) ?_
  show Goes p e below QQ (s₁.setTop (mkF m 95 #[rv a1, iv p2, iv (x0 &&& (255 : Int32)), iv ((((((x0 &&& (255 : Int32)) &&& (15 : Int32)) <<< ((6 : Int32) &&& 31)) ||| (x1 &&& (63 : Int32))) <<< ((6 : Int32) &&& 31)) ||| (x2 &&& (63 : Int32))), iv 3, iv ((2 : Int32) + (1 : Int32))] []))
  rw [(by decide : ((2 : Int32) + (1 : Int32)) = (3 : Int32))]
  show Goes p e below QQ (s₁.setTop (mkF m 95 #[rv a1, iv p2, iv (x0 &&& (255 : Int32)), iv ((((((x0 &&& (255 : Int32)) &&& (15 : Int32)) <<< ((6 : Int32) &&& 31)) ||| (x1 &&& (63 : Int32))) <<< ((6 : Int32) &&& 31)) ||| (x2 &&& (63 : Int32))), iv 3, iv 3] []))
  refine Goes.on (fun t k => XS.goto X0.here hx rfl (pc0 := 95) (pc' := 70) rfl (hb hby d1_95) (by decide) (by decide) k) ?_
  show Goes p e below QQ (s₁.setTop (mkF m 70 #[rv a1, iv p2, iv (x0 &&& (255 : Int32)), iv ((((((x0 &&& (255 : Int32)) &&& (15 : Int32)) <<< ((6 : Int32) &&& 31)) ||| (x1 &&& (63 : Int32))) <<< ((6 : Int32) &&& 31)) ||| (x2 &&& (63 : Int32))), iv 3, iv 3] []))
  refine Goes.on (fun t k => XS.iload X0.here hx rfl (hb hby d1_70) rfl k) ?_
  show Goes p e below QQ (s₁.setTop (mkF m 72 #[rv a1, iv p2, iv (x0 &&& (255 : Int32)), iv ((((((x0 &&& (255 : Int32)) &&& (15 : Int32)) <<< ((6 : Int32) &&& 31)) ||| (x1 &&& (63 : Int32))) <<< ((6 : Int32) &&& 31)) ||| (x2 &&& (63 : Int32))), iv 3, iv 3] [(.int 3)]))
  refine Goes.on (fun t k => XS.iload X0.here hx rfl (hb hby d1_72) rfl k) ?_
  show Goes p e below QQ (s₁.setTop (mkF m 74 #[rv a1, iv p2, iv (x0 &&& (255 : Int32)), iv ((((((x0 &&& (255 : Int32)) &&& (15 : Int32)) <<< ((6 : Int32) &&& 31)) ||| (x1 &&& (63 : Int32))) <<< ((6 : Int32) &&& 31)) ||| (x2 &&& (63 : Int32))), iv 3, iv 3] [(.int 3), (.int 3)]))
  refine Goes.on (fun t k => XS.icmpYes X0.here hx rfl (pc0 := 74) (pc' := 98) rfl (hb hby d1_74) rfl (flt (by decide)).2.1 (by decide) (by decide) k) ?_
  show Goes p e below QQ (s₁.setTop (mkF m 98 #[rv a1, iv p2, iv (x0 &&& (255 : Int32)), iv ((((((x0 &&& (255 : Int32)) &&& (15 : Int32)) <<< ((6 : Int32) &&& 31)) ||| (x1 &&& (63 : Int32))) <<< ((6 : Int32) &&& 31)) ||| (x2 &&& (63 : Int32))), iv 3, iv 3] []))
  refine Goes.on (fun t k => XS.iloadN X0.here hx rfl (hb hby d1_98) rfl k) ?_
  show Goes p e below QQ (s₁.setTop (mkF m 99 #[rv a1, iv p2, iv (x0 &&& (255 : Int32)), iv ((((((x0 &&& (255 : Int32)) &&& (15 : Int32)) <<< ((6 : Int32) &&& 31)) ||| (x1 &&& (63 : Int32))) <<< ((6 : Int32) &&& 31)) ||| (x2 &&& (63 : Int32))), iv 3, iv 3] [(.int ((((((x0 &&& (255 : Int32)) &&& (15 : Int32)) <<< ((6 : Int32) &&& 31)) ||| (x1 &&& (63 : Int32))) <<< ((6 : Int32) &&& 31)) ||| (x2 &&& (63 : Int32))))]))
  exact Goes.rI X0 hx hret hlk (hb hby d1_99) hQQ ⟨rfl, N0, e0⟩ (by decide) (by decide)
theorem ef_rm1_4 (m : MethodId) (x0 : Addr) (x1 : Int32) : entryFrame m #[(.ref x0), (.int x1)] 6 = mkF m 0 #[rv x0, iv x1, .unset, .unset, .unset, .unset] [] := by first | (simp [entryFrame, mkF, argsToLocals, Value.category]; done) | rfl
set_option maxRecDepth 65536 in
set_option maxHeartbeats 40000000 in
theorem rm1_4 (l : Launch) (Z : State) (a0 : Array Value) (hw : ∀ d ∈ tables_1, d.before a0 Z = true) (ws : List Jvm.Cond) (a1 : Addr) (p2 : Int32) (kk : ClassId) (zz : Int32) (vs : List Value) (x0 x1 x2 x3 : Int32) (h0 : Heap) (n0 : Nat) (Z0 : n0 ≤ h0.size) (V_a1 : Arv Z h0 a1 kk .byte zz vs (.int 0)) (I0 : ¬ p2 < 0 ∧ p2 < zz) (G0 : vs.getD (p2).toNatClampNeg (.int (0 : Int32)) = .int x0) (I1 : ¬ (p2 + (1 : Int32)) < 0 ∧ (p2 + (1 : Int32)) < zz) (G1 : vs.getD ((p2 + (1 : Int32))).toNatClampNeg (.int (0 : Int32)) = .int x1) (I2 : ¬ (p2 + (2 : Int32)) < 0 ∧ (p2 + (2 : Int32)) < zz) (G2 : vs.getD ((p2 + (2 : Int32))).toNatClampNeg (.int (0 : Int32)) = .int x2) (I3 : ¬ (p2 + (3 : Int32)) < 0 ∧ (p2 + (3 : Int32)) < zz) (G3 : vs.getD ((p2 + (3 : Int32))).toNatClampNeg (.int (0 : Int32)) = .int x3) (H0 : ¬ (x0 &&& (255 : Int32)) < (128 : Int32)) (H1 : ¬ (x0 &&& (255 : Int32)) < (224 : Int32)) (H2 : ¬ (x0 &&& (255 : Int32)) < (240 : Int32)) :
    MetFree l (⟨"com/example/sober_links/soberlinks/io/Utf8", "codePointAt", "([BI)I"⟩ : MethodName) (head1 (Jvm.Cond.code (⟨"com/example/sober_links/soberlinks/io/Utf8", "codePointAt", "([BI)I"⟩ : MethodName) prog_93_method_4_code 6 (some .int) :: ws) ({ frames := 0, cells := 0, slots := 0, locals := 0 } : Room)) (fun a U => a = #[(.ref a1), (.int p2)] ∧ Z.Warmed39 U.vm ∧ U.heap = h0) (fun _ _ _ _ _ => True) (fun _ U o U' => ∃ v L, o = .returned v ∧ QP (.int ((((((((x0 &&& (255 : Int32)) &&& (7 : Int32)) <<< ((6 : Int32) &&& 31)) ||| (x1 &&& (63 : Int32))) <<< ((6 : Int32) &&& 31)) ||| (x2 &&& (63 : Int32))) <<< ((6 : Int32) &&& 31)) ||| (x3 &&& (63 : Int32)))) h0 n0 v U'.heap L ∧ FrameEnd U o U' L ({ frames := 0, cells := 0, slots := 0, locals := 0 } : Room).cells ({ frames := 0, cells := 0, slots := 0, locals := 0 } : Room).slots) := by
  refine own_enter pn_1 ?_
  intro p e s m below meth c s₁ QQ hQQ hx hby hml hown hnm hret hlk hZ X0 e0
  have hown : s.vm.findClass "com/example/sober_links/soberlinks/io/Utf8" = some m.cls := hown
  have hml : c.maxLocals = 6 := hml
  have hret : meth.sig.returnType = some .int := hret
  have N0 := Fr.nil n0
  have K0 := Keep.refl h0 []
  refine Goes.cast (ef_rm1_4 m a1 p2) ?_
  show Goes p e below QQ (s₁.setTop (mkF m 0 #[rv a1, iv p2, .unset, .unset, .unset, .unset] []))
  refine Goes.on (fun t k => XS.aloadN X0.here hx rfl (hb hby d1_0) rfl rfl k) ?_
  show Goes p e below QQ (s₁.setTop (mkF m 1 #[rv a1, iv p2, .unset, .unset, .unset, .unset] [(.ref a1)]))
  refine Goes.on (fun t k => XS.iloadN X0.here hx rfl (hb hby d1_1) rfl k) ?_
  show Goes p e below QQ (s₁.setTop (mkF m 2 #[rv a1, iv p2, .unset, .unset, .unset, .unset] [(.int p2), (.ref a1)]))
  obtain ⟨cl1, Ar1, aq1, aS1, aN1, aH1, aG1⟩ := id V_a1
  have hin1 := inb_of (j := p2) aS1 I0
  have hat1 := Has.at (v := (.int x0)) aH1 hin1 G0
  refine Goes.on (fun t k => X0.baloadBytes hx (j := p2) (v := (.int x0)) (by rw [e0]; exact Ar1.1) (State.isArrayOf_alike hZ.alike Ar1.2.1) Ar1.2.2 hin1 hat1 (g := (mkF m 2 #[rv a1, iv p2, .unset, .unset, .unset, .unset] [(.int p2), (.ref a1)])) rfl rfl (hb hby d1_2) t k) ?_
  show Goes p e below QQ (s₁.setTop (mkF m 3 #[rv a1, iv p2, .unset, .unset, .unset, .unset] [(.int x0)]))
  refine Goes.on (fun t k => XS.sipush X0.here hx rfl (hb hby d1_3) k) ?_
  show Goes p e below QQ (s₁.setTop (mkF m 6 #[rv a1, iv p2, .unset, .unset, .unset, .unset] [(.int 255), (.int x0)]))
  refine Goes.on (fun t k => XS.iand X0.here hx rfl (hb hby d1_6) rfl k) ?_
  show Goes p e below QQ (s₁.setTop (mkF m 7 #[rv a1, iv p2, .unset, .unset, .unset, .unset] [(.int (x0 &&& (255 : Int32)))]))
  refine Goes.on (fun t k => XS.istoreN X0.here hx rfl (hb hby d1_7) rfl (l' := #[rv a1, iv p2, iv (x0 &&& (255 : Int32)), .unset, .unset, .unset]) rfl k) ?_
  show Goes p e below QQ (s₁.setTop (mkF m 8 #[rv a1, iv p2, iv (x0 &&& (255 : Int32)), .unset, .unset, .unset] []))
  refine Goes.on (fun t k => XS.iloadN X0.here hx rfl (hb hby d1_8) rfl k) ?_
  show Goes p e below QQ (s₁.setTop (mkF m 9 #[rv a1, iv p2, iv (x0 &&& (255 : Int32)), .unset, .unset, .unset] [(.int (x0 &&& (255 : Int32)))]))
  refine Goes.on (fun t k => XS.sipush X0.here hx rfl (hb hby d1_9) k) ?_
  show Goes p e below QQ (s₁.setTop (mkF m 12 #[rv a1, iv p2, iv (x0 &&& (255 : Int32)), .unset, .unset, .unset] [(.int 128), (.int (x0 &&& (255 : Int32)))]))
  refine Goes.on (fun t k => XS.icmpYes X0.here hx rfl (pc0 := 12) (pc' := 23) rfl (hb hby d1_12) rfl (flt H0).2.1 (by decide) (by decide) k) ?_
  show Goes p e below QQ (s₁.setTop (mkF m 23 #[rv a1, iv p2, iv (x0 &&& (255 : Int32)), .unset, .unset, .unset] []))
  refine Goes.on (fun t k => XS.iloadN X0.here hx rfl (hb hby d1_23) rfl k) ?_
  show Goes p e below QQ (s₁.setTop (mkF m 24 #[rv a1, iv p2, iv (x0 &&& (255 : Int32)), .unset, .unset, .unset] [(.int (x0 &&& (255 : Int32)))]))
  refine Goes.on (fun t k => XS.sipush X0.here hx rfl (hb hby d1_24) k) ?_
  show Goes p e below QQ (s₁.setTop (mkF m 27 #[rv a1, iv p2, iv (x0 &&& (255 : Int32)), .unset, .unset, .unset] [(.int 224), (.int (x0 &&& (255 : Int32)))]))
  refine Goes.on (fun t k => XS.icmpYes X0.here hx rfl (pc0 := 27) (pc' := 41) rfl (hb hby d1_27) rfl (flt H1).2.1 (by decide) (by decide) k) ?_
  show Goes p e below QQ (s₁.setTop (mkF m 41 #[rv a1, iv p2, iv (x0 &&& (255 : Int32)), .unset, .unset, .unset] []))
  refine Goes.on (fun t k => XS.iloadN X0.here hx rfl (hb hby d1_41) rfl k) ?_
  show Goes p e below QQ (s₁.setTop (mkF m 42 #[rv a1, iv p2, iv (x0 &&& (255 : Int32)), .unset, .unset, .unset] [(.int (x0 &&& (255 : Int32)))]))
  refine Goes.on (fun t k => XS.sipush X0.here hx rfl (hb hby d1_42) k) ?_
  show Goes p e below QQ (s₁.setTop (mkF m 45 #[rv a1, iv p2, iv (x0 &&& (255 : Int32)), .unset, .unset, .unset] [(.int 240), (.int (x0 &&& (255 : Int32)))]))
  refine Goes.on (fun t k => XS.icmpYes X0.here hx rfl (pc0 := 45) (pc' := 59) rfl (hb hby d1_45) rfl (flt H2).2.1 (by decide) (by decide) k) ?_
  show Goes p e below QQ (s₁.setTop (mkF m 59 #[rv a1, iv p2, iv (x0 &&& (255 : Int32)), .unset, .unset, .unset] []))
  refine Goes.on (fun t k => XS.iloadN X0.here hx rfl (hb hby d1_59) rfl k) ?_
  show Goes p e below QQ (s₁.setTop (mkF m 60 #[rv a1, iv p2, iv (x0 &&& (255 : Int32)), .unset, .unset, .unset] [(.int (x0 &&& (255 : Int32)))]))
  refine Goes.on (fun t k => XS.bipush X0.here hx rfl (hb hby d1_60) k) ?_
  show Goes p e below QQ (s₁.setTop (mkF m 62 #[rv a1, iv p2, iv (x0 &&& (255 : Int32)), .unset, .unset, .unset] [(.int 7), (.int (x0 &&& (255 : Int32)))]))
  refine Goes.on (fun t k => XS.iand X0.here hx rfl (hb hby d1_62) rfl k) ?_
  show Goes p e below QQ (s₁.setTop (mkF m 63 #[rv a1, iv p2, iv (x0 &&& (255 : Int32)), .unset, .unset, .unset] [(.int ((x0 &&& (255 : Int32)) &&& (7 : Int32)))]))
  refine Goes.on (fun t k => XS.istoreN X0.here hx rfl (hb hby d1_63) rfl (l' := #[rv a1, iv p2, iv (x0 &&& (255 : Int32)), iv ((x0 &&& (255 : Int32)) &&& (7 : Int32)), .unset, .unset]) rfl k) ?_
  show Goes p e below QQ (s₁.setTop (mkF m 64 #[rv a1, iv p2, iv (x0 &&& (255 : Int32)), iv ((x0 &&& (255 : Int32)) &&& (7 : Int32)), .unset, .unset] []))
  refine Goes.on (fun t k => XS.iconst X0.here hx rfl (hb hby d1_64) k) ?_
  show Goes p e below QQ (s₁.setTop (mkF m 65 #[rv a1, iv p2, iv (x0 &&& (255 : Int32)), iv ((x0 &&& (255 : Int32)) &&& (7 : Int32)), .unset, .unset] [(.int 4)]))
  refine Goes.on (fun t k => XS.istore X0.here hx rfl (hb hby d1_65) rfl (l' := #[rv a1, iv p2, iv (x0 &&& (255 : Int32)), iv ((x0 &&& (255 : Int32)) &&& (7 : Int32)), iv 4, .unset]) rfl k) ?_
  show Goes p e below QQ (s₁.setTop (mkF m 67 #[rv a1, iv p2, iv (x0 &&& (255 : Int32)), iv ((x0 &&& (255 : Int32)) &&& (7 : Int32)), iv 4, .unset] []))
  refine Goes.on (fun t k => XS.iconst X0.here hx rfl (hb hby d1_67) k) ?_
  show Goes p e below QQ (s₁.setTop (mkF m 68 #[rv a1, iv p2, iv (x0 &&& (255 : Int32)), iv ((x0 &&& (255 : Int32)) &&& (7 : Int32)), iv 4, .unset] [(.int 1)]))
  refine Goes.on (fun t k => XS.istore X0.here hx rfl (hb hby d1_68) rfl (l' := #[rv a1, iv p2, iv (x0 &&& (255 : Int32)), iv ((x0 &&& (255 : Int32)) &&& (7 : Int32)), iv 4, iv 1]) rfl k) ?_
  show Goes p e below QQ (s₁.setTop (mkF m 70 #[rv a1, iv p2, iv (x0 &&& (255 : Int32)), iv ((x0 &&& (255 : Int32)) &&& (7 : Int32)), iv 4, iv 1] []))
  refine Goes.on (fun t k => XS.iload X0.here hx rfl (hb hby d1_70) rfl k) ?_
  show Goes p e below QQ (s₁.setTop (mkF m 72 #[rv a1, iv p2, iv (x0 &&& (255 : Int32)), iv ((x0 &&& (255 : Int32)) &&& (7 : Int32)), iv 4, iv 1] [(.int 1)]))
  refine Goes.on (fun t k => XS.iload X0.here hx rfl (hb hby d1_72) rfl k) ?_
  show Goes p e below QQ (s₁.setTop (mkF m 74 #[rv a1, iv p2, iv (x0 &&& (255 : Int32)), iv ((x0 &&& (255 : Int32)) &&& (7 : Int32)), iv 4, iv 1] [(.int 4), (.int 1)]))
  refine Goes.on (fun t k => XS.icmpNo X0.here hx rfl (hb hby d1_74) rfl (tlt (by decide)).2.1 k) ?_
  show Goes p e below QQ (s₁.setTop (mkF m 77 #[rv a1, iv p2, iv (x0 &&& (255 : Int32)), iv ((x0 &&& (255 : Int32)) &&& (7 : Int32)), iv 4, iv 1] []))
  refine Goes.on (fun t k => XS.iloadN X0.here hx rfl (hb hby d1_77) rfl k) ?_
  show Goes p e below QQ (s₁.setTop (mkF m 78 #[rv a1, iv p2, iv (x0 &&& (255 : Int32)), iv ((x0 &&& (255 : Int32)) &&& (7 : Int32)), iv 4, iv 1] [(.int ((x0 &&& (255 : Int32)) &&& (7 : Int32)))]))
  refine Goes.on (fun t k => XS.bipush X0.here hx rfl (hb hby d1_78) k) ?_
  show Goes p e below QQ (s₁.setTop (mkF m 80 #[rv a1, iv p2, iv (x0 &&& (255 : Int32)), iv ((x0 &&& (255 : Int32)) &&& (7 : Int32)), iv 4, iv 1] [(.int 6), (.int ((x0 &&& (255 : Int32)) &&& (7 : Int32)))]))
  refine Goes.on (fun t k => XS.ishl X0.here hx rfl (hb hby d1_80) rfl k) ?_
  show Goes p e below QQ (s₁.setTop (mkF m 81 #[rv a1, iv p2, iv (x0 &&& (255 : Int32)), iv ((x0 &&& (255 : Int32)) &&& (7 : Int32)), iv 4, iv 1] [(.int (((x0 &&& (255 : Int32)) &&& (7 : Int32)) <<< ((6 : Int32) &&& 31)))]))
  refine Goes.on (fun t k => XS.aloadN X0.here hx rfl (hb hby d1_81) rfl rfl k) ?_
  show Goes p e below QQ (s₁.setTop (mkF m 82 #[rv a1, iv p2, iv (x0 &&& (255 : Int32)), iv ((x0 &&& (255 : Int32)) &&& (7 : Int32)), iv 4, iv 1] [(.ref a1), (.int (((x0 &&& (255 : Int32)) &&& (7 : Int32)) <<< ((6 : Int32) &&& 31)))]))
  refine Goes.on (fun t k => XS.iloadN X0.here hx rfl (hb hby d1_82) rfl k) ?_
  show Goes p e below QQ (s₁.setTop (mkF m 83 #[rv a1, iv p2, iv (x0 &&& (255 : Int32)), iv ((x0 &&& (255 : Int32)) &&& (7 : Int32)), iv 4, iv 1] [(.int p2), (.ref a1), (.int (((x0 &&& (255 : Int32)) &&& (7 : Int32)) <<< ((6 : Int32) &&& 31)))]))
  refine Goes.on (fun t k => XS.iload X0.here hx rfl (hb hby d1_83) rfl k) ?_
  show Goes p e below QQ (s₁.setTop (mkF m 85 #[rv a1, iv p2, iv (x0 &&& (255 : Int32)), iv ((x0 &&& (255 : Int32)) &&& (7 : Int32)), iv 4, iv 1] [(.int 1), (.int p2), (.ref a1), (.int (((x0 &&& (255 : Int32)) &&& (7 : Int32)) <<< ((6 : Int32) &&& 31)))]))
  refine Goes.on (fun t k => XS.iadd X0.here hx rfl (hb hby d1_85) rfl k) ?_
  show Goes p e below QQ (s₁.setTop (mkF m 86 #[rv a1, iv p2, iv (x0 &&& (255 : Int32)), iv ((x0 &&& (255 : Int32)) &&& (7 : Int32)), iv 4, iv 1] [(.int (p2 + (1 : Int32))), (.ref a1), (.int (((x0 &&& (255 : Int32)) &&& (7 : Int32)) <<< ((6 : Int32) &&& 31)))]))
  obtain ⟨cl2, Ar2, aq2, aS2, aN2, aH2, aG2⟩ := id V_a1
  have hin2 := inb_of (j := (p2 + (1 : Int32))) aS2 I1
  have hat2 := Has.at (v := (.int x1)) aH2 hin2 G1
  refine Goes.on (fun t k => X0.baloadBytes hx (j := (p2 + (1 : Int32))) (v := (.int x1)) (by rw [e0]; exact Ar2.1) (State.isArrayOf_alike hZ.alike Ar2.2.1) Ar2.2.2 hin2 hat2 (g := (mkF m 86 #[rv a1, iv p2, iv (x0 &&& (255 : Int32)), iv ((x0 &&& (255 : Int32)) &&& (7 : Int32)), iv 4, iv 1] [(.int (p2 + (1 : Int32))), (.ref a1), (.int (((x0 &&& (255 : Int32)) &&& (7 : Int32)) <<< ((6 : Int32) &&& 31)))])) rfl rfl (hb hby d1_86) t k) ?_
  show Goes p e below QQ (s₁.setTop (mkF m 87 #[rv a1, iv p2, iv (x0 &&& (255 : Int32)), iv ((x0 &&& (255 : Int32)) &&& (7 : Int32)), iv 4, iv 1] [(.int x1), (.int (((x0 &&& (255 : Int32)) &&& (7 : Int32)) <<< ((6 : Int32) &&& 31)))]))
  refine Goes.on (fun t k => XS.bipush X0.here hx rfl (hb hby d1_87) k) ?_
  show Goes p e below QQ (s₁.setTop (mkF m 89 #[rv a1, iv p2, iv (x0 &&& (255 : Int32)), iv ((x0 &&& (255 : Int32)) &&& (7 : Int32)), iv 4, iv 1] [(.int 63), (.int x1), (.int (((x0 &&& (255 : Int32)) &&& (7 : Int32)) <<< ((6 : Int32) &&& 31)))]))
  refine Goes.on (fun t k => XS.iand X0.here hx rfl (hb hby d1_89) rfl k) ?_
  show Goes p e below QQ (s₁.setTop (mkF m 90 #[rv a1, iv p2, iv (x0 &&& (255 : Int32)), iv ((x0 &&& (255 : Int32)) &&& (7 : Int32)), iv 4, iv 1] [(.int (x1 &&& (63 : Int32))), (.int (((x0 &&& (255 : Int32)) &&& (7 : Int32)) <<< ((6 : Int32) &&& 31)))]))
  refine Goes.on (fun t k => XS.ior X0.here hx rfl (hb hby d1_90) rfl k) ?_
  show Goes p e below QQ (s₁.setTop (mkF m 91 #[rv a1, iv p2, iv (x0 &&& (255 : Int32)), iv ((x0 &&& (255 : Int32)) &&& (7 : Int32)), iv 4, iv 1] [(.int ((((x0 &&& (255 : Int32)) &&& (7 : Int32)) <<< ((6 : Int32) &&& 31)) ||| (x1 &&& (63 : Int32))))]))
  refine Goes.on (fun t k => XS.istoreN X0.here hx rfl (hb hby d1_91) rfl (l' := #[rv a1, iv p2, iv (x0 &&& (255 : Int32)), iv ((((x0 &&& (255 : Int32)) &&& (7 : Int32)) <<< ((6 : Int32) &&& 31)) ||| (x1 &&& (63 : Int32))), iv 4, iv 1]) rfl k) ?_
  show Goes p e below QQ (s₁.setTop (mkF m 92 #[rv a1, iv p2, iv (x0 &&& (255 : Int32)), iv ((((x0 &&& (255 : Int32)) &&& (7 : Int32)) <<< ((6 : Int32) &&& 31)) ||| (x1 &&& (63 : Int32))), iv 4, iv 1] []))
  refine Goes.on (fun t k => XS.iinc X0.here hx rfl (hb hby d1_92) rfl (l' := #[rv a1, iv p2, iv (x0 &&& (255 : Int32)), iv ((((x0 &&& (255 : Int32)) &&& (7 : Int32)) <<< ((6 : Int32) &&& 31)) ||| (x1 &&& (63 : Int32))), iv 4, iv ((1 : Int32) + (1 : Int32))]) rfl k) ?_
  show Goes p e below QQ (s₁.setTop (mkF m 95 #[rv a1, iv p2, iv (x0 &&& (255 : Int32)), iv ((((x0 &&& (255 : Int32)) &&& (7 : Int32)) <<< ((6 : Int32) &&& 31)) ||| (x1 &&& (63 : Int32))), iv 4, iv ((1 : Int32) + (1 : Int32))] []))
  rw [(by decide : ((1 : Int32) + (1 : Int32)) = (2 : Int32))]
  show Goes p e below QQ (s₁.setTop (mkF m 95 #[rv a1, iv p2, iv (x0 &&& (255 : Int32)), iv ((((x0 &&& (255 : Int32)) &&& (7 : Int32)) <<< ((6 : Int32) &&& 31)) ||| (x1 &&& (63 : Int32))), iv 4, iv 2] []))
  refine Goes.on (fun t k => XS.goto X0.here hx rfl (pc0 := 95) (pc' := 70) rfl (hb hby d1_95) (by decide) (by decide) k) ?_
  show Goes p e below QQ (s₁.setTop (mkF m 70 #[rv a1, iv p2, iv (x0 &&& (255 : Int32)), iv ((((x0 &&& (255 : Int32)) &&& (7 : Int32)) <<< ((6 : Int32) &&& 31)) ||| (x1 &&& (63 : Int32))), iv 4, iv 2] []))
  refine Goes.on (fun t k => XS.iload X0.here hx rfl (hb hby d1_70) rfl k) ?_
  show Goes p e below QQ (s₁.setTop (mkF m 72 #[rv a1, iv p2, iv (x0 &&& (255 : Int32)), iv ((((x0 &&& (255 : Int32)) &&& (7 : Int32)) <<< ((6 : Int32) &&& 31)) ||| (x1 &&& (63 : Int32))), iv 4, iv 2] [(.int 2)]))
  refine Goes.on (fun t k => XS.iload X0.here hx rfl (hb hby d1_72) rfl k) ?_
  show Goes p e below QQ (s₁.setTop (mkF m 74 #[rv a1, iv p2, iv (x0 &&& (255 : Int32)), iv ((((x0 &&& (255 : Int32)) &&& (7 : Int32)) <<< ((6 : Int32) &&& 31)) ||| (x1 &&& (63 : Int32))), iv 4, iv 2] [(.int 4), (.int 2)]))
  refine Goes.on (fun t k => XS.icmpNo X0.here hx rfl (hb hby d1_74) rfl (tlt (by decide)).2.1 k) ?_
  show Goes p e below QQ (s₁.setTop (mkF m 77 #[rv a1, iv p2, iv (x0 &&& (255 : Int32)), iv ((((x0 &&& (255 : Int32)) &&& (7 : Int32)) <<< ((6 : Int32) &&& 31)) ||| (x1 &&& (63 : Int32))), iv 4, iv 2] []))
  refine Goes.on (fun t k => XS.iloadN X0.here hx rfl (hb hby d1_77) rfl k) ?_
  show Goes p e below QQ (s₁.setTop (mkF m 78 #[rv a1, iv p2, iv (x0 &&& (255 : Int32)), iv ((((x0 &&& (255 : Int32)) &&& (7 : Int32)) <<< ((6 : Int32) &&& 31)) ||| (x1 &&& (63 : Int32))), iv 4, iv 2] [(.int ((((x0 &&& (255 : Int32)) &&& (7 : Int32)) <<< ((6 : Int32) &&& 31)) ||| (x1 &&& (63 : Int32))))]))
  refine Goes.on (fun t k => XS.bipush X0.here hx rfl (hb hby d1_78) k) ?_
  show Goes p e below QQ (s₁.setTop (mkF m 80 #[rv a1, iv p2, iv (x0 &&& (255 : Int32)), iv ((((x0 &&& (255 : Int32)) &&& (7 : Int32)) <<< ((6 : Int32) &&& 31)) ||| (x1 &&& (63 : Int32))), iv 4, iv 2] [(.int 6), (.int ((((x0 &&& (255 : Int32)) &&& (7 : Int32)) <<< ((6 : Int32) &&& 31)) ||| (x1 &&& (63 : Int32))))]))
  refine Goes.on (fun t k => XS.ishl X0.here hx rfl (hb hby d1_80) rfl k) ?_
  show Goes p e below QQ (s₁.setTop (mkF m 81 #[rv a1, iv p2, iv (x0 &&& (255 : Int32)), iv ((((x0 &&& (255 : Int32)) &&& (7 : Int32)) <<< ((6 : Int32) &&& 31)) ||| (x1 &&& (63 : Int32))), iv 4, iv 2] [(.int (((((x0 &&& (255 : Int32)) &&& (7 : Int32)) <<< ((6 : Int32) &&& 31)) ||| (x1 &&& (63 : Int32))) <<< ((6 : Int32) &&& 31)))]))
  refine Goes.on (fun t k => XS.aloadN X0.here hx rfl (hb hby d1_81) rfl rfl k) ?_
  show Goes p e below QQ (s₁.setTop (mkF m 82 #[rv a1, iv p2, iv (x0 &&& (255 : Int32)), iv ((((x0 &&& (255 : Int32)) &&& (7 : Int32)) <<< ((6 : Int32) &&& 31)) ||| (x1 &&& (63 : Int32))), iv 4, iv 2] [(.ref a1), (.int (((((x0 &&& (255 : Int32)) &&& (7 : Int32)) <<< ((6 : Int32) &&& 31)) ||| (x1 &&& (63 : Int32))) <<< ((6 : Int32) &&& 31)))]))
  refine Goes.on (fun t k => XS.iloadN X0.here hx rfl (hb hby d1_82) rfl k) ?_
  show Goes p e below QQ (s₁.setTop (mkF m 83 #[rv a1, iv p2, iv (x0 &&& (255 : Int32)), iv ((((x0 &&& (255 : Int32)) &&& (7 : Int32)) <<< ((6 : Int32) &&& 31)) ||| (x1 &&& (63 : Int32))), iv 4, iv 2] [(.int p2), (.ref a1), (.int (((((x0 &&& (255 : Int32)) &&& (7 : Int32)) <<< ((6 : Int32) &&& 31)) ||| (x1 &&& (63 : Int32))) <<< ((6 : Int32) &&& 31)))]))
  refine Goes.on (fun t k => XS.iload X0.here hx rfl (hb hby d1_83) rfl k) ?_
  show Goes p e below QQ (s₁.setTop (mkF m 85 #[rv a1, iv p2, iv (x0 &&& (255 : Int32)), iv ((((x0 &&& (255 : Int32)) &&& (7 : Int32)) <<< ((6 : Int32) &&& 31)) ||| (x1 &&& (63 : Int32))), iv 4, iv 2] [(.int 2), (.int p2), (.ref a1), (.int (((((x0 &&& (255 : Int32)) &&& (7 : Int32)) <<< ((6 : Int32) &&& 31)) ||| (x1 &&& (63 : Int32))) <<< ((6 : Int32) &&& 31)))]))
  refine Goes.on (fun t k => XS.iadd X0.here hx rfl (hb hby d1_85) rfl k) ?_
  show Goes p e below QQ (s₁.setTop (mkF m 86 #[rv a1, iv p2, iv (x0 &&& (255 : Int32)), iv ((((x0 &&& (255 : Int32)) &&& (7 : Int32)) <<< ((6 : Int32) &&& 31)) ||| (x1 &&& (63 : Int32))), iv 4, iv 2] [(.int (p2 + (2 : Int32))), (.ref a1), (.int (((((x0 &&& (255 : Int32)) &&& (7 : Int32)) <<< ((6 : Int32) &&& 31)) ||| (x1 &&& (63 : Int32))) <<< ((6 : Int32) &&& 31)))]))
  obtain ⟨cl3, Ar3, aq3, aS3, aN3, aH3, aG3⟩ := id V_a1
  have hin3 := inb_of (j := (p2 + (2 : Int32))) aS3 I2
  have hat3 := Has.at (v := (.int x2)) aH3 hin3 G2
  refine Goes.on (fun t k => X0.baloadBytes hx (j := (p2 + (2 : Int32))) (v := (.int x2)) (by rw [e0]; exact Ar3.1) (State.isArrayOf_alike hZ.alike Ar3.2.1) Ar3.2.2 hin3 hat3 (g := (mkF m 86 #[rv a1, iv p2, iv (x0 &&& (255 : Int32)), iv ((((x0 &&& (255 : Int32)) &&& (7 : Int32)) <<< ((6 : Int32) &&& 31)) ||| (x1 &&& (63 : Int32))), iv 4, iv 2] [(.int (p2 + (2 : Int32))), (.ref a1), (.int (((((x0 &&& (255 : Int32)) &&& (7 : Int32)) <<< ((6 : Int32) &&& 31)) ||| (x1 &&& (63 : Int32))) <<< ((6 : Int32) &&& 31)))])) rfl rfl (hb hby d1_86) t k) ?_
  show Goes p e below QQ (s₁.setTop (mkF m 87 #[rv a1, iv p2, iv (x0 &&& (255 : Int32)), iv ((((x0 &&& (255 : Int32)) &&& (7 : Int32)) <<< ((6 : Int32) &&& 31)) ||| (x1 &&& (63 : Int32))), iv 4, iv 2] [(.int x2), (.int (((((x0 &&& (255 : Int32)) &&& (7 : Int32)) <<< ((6 : Int32) &&& 31)) ||| (x1 &&& (63 : Int32))) <<< ((6 : Int32) &&& 31)))]))
  refine Goes.on (fun t k => XS.bipush X0.here hx rfl (hb hby d1_87) k) ?_
  show Goes p e below QQ (s₁.setTop (mkF m 89 #[rv a1, iv p2, iv (x0 &&& (255 : Int32)), iv ((((x0 &&& (255 : Int32)) &&& (7 : Int32)) <<< ((6 : Int32) &&& 31)) ||| (x1 &&& (63 : Int32))), iv 4, iv 2] [(.int 63), (.int x2), (.int (((((x0 &&& (255 : Int32)) &&& (7 : Int32)) <<< ((6 : Int32) &&& 31)) ||| (x1 &&& (63 : Int32))) <<< ((6 : Int32) &&& 31)))]))
  refine Goes.on (fun t k => XS.iand X0.here hx rfl (hb hby d1_89) rfl k) ?_
  show Goes p e below QQ (s₁.setTop (mkF m 90 #[rv a1, iv p2, iv (x0 &&& (255 : Int32)), iv ((((x0 &&& (255 : Int32)) &&& (7 : Int32)) <<< ((6 : Int32) &&& 31)) ||| (x1 &&& (63 : Int32))), iv 4, iv 2] [(.int (x2 &&& (63 : Int32))), (.int (((((x0 &&& (255 : Int32)) &&& (7 : Int32)) <<< ((6 : Int32) &&& 31)) ||| (x1 &&& (63 : Int32))) <<< ((6 : Int32) &&& 31)))]))
  refine Goes.on (fun t k => XS.ior X0.here hx rfl (hb hby d1_90) rfl k) ?_
  show Goes p e below QQ (s₁.setTop (mkF m 91 #[rv a1, iv p2, iv (x0 &&& (255 : Int32)), iv ((((x0 &&& (255 : Int32)) &&& (7 : Int32)) <<< ((6 : Int32) &&& 31)) ||| (x1 &&& (63 : Int32))), iv 4, iv 2] [(.int ((((((x0 &&& (255 : Int32)) &&& (7 : Int32)) <<< ((6 : Int32) &&& 31)) ||| (x1 &&& (63 : Int32))) <<< ((6 : Int32) &&& 31)) ||| (x2 &&& (63 : Int32))))]))
  refine Goes.on (fun t k => XS.istoreN X0.here hx rfl (hb hby d1_91) rfl (l' := #[rv a1, iv p2, iv (x0 &&& (255 : Int32)), iv ((((((x0 &&& (255 : Int32)) &&& (7 : Int32)) <<< ((6 : Int32) &&& 31)) ||| (x1 &&& (63 : Int32))) <<< ((6 : Int32) &&& 31)) ||| (x2 &&& (63 : Int32))), iv 4, iv 2]) rfl k) ?_
  show Goes p e below QQ (s₁.setTop (mkF m 92 #[rv a1, iv p2, iv (x0 &&& (255 : Int32)), iv ((((((x0 &&& (255 : Int32)) &&& (7 : Int32)) <<< ((6 : Int32) &&& 31)) ||| (x1 &&& (63 : Int32))) <<< ((6 : Int32) &&& 31)) ||| (x2 &&& (63 : Int32))), iv 4, iv 2] []))
  refine Goes.on (fun t k => XS.iinc X0.here hx rfl (hb hby d1_92) rfl (l' := #[rv a1, iv p2, iv (x0 &&& (255 : Int32)), iv ((((((x0 &&& (255 : Int32)) &&& (7 : Int32)) <<< ((6 : Int32) &&& 31)) ||| (x1 &&& (63 : Int32))) <<< ((6 : Int32) &&& 31)) ||| (x2 &&& (63 : Int32))), iv 4, iv ((2 : Int32) + (1 : Int32))]) rfl k) ?_
  show Goes p e below QQ (s₁.setTop (mkF m 95 #[rv a1, iv p2, iv (x0 &&& (255 : Int32)), iv ((((((x0 &&& (255 : Int32)) &&& (7 : Int32)) <<< ((6 : Int32) &&& 31)) ||| (x1 &&& (63 : Int32))) <<< ((6 : Int32) &&& 31)) ||| (x2 &&& (63 : Int32))), iv 4, iv ((2 : Int32) + (1 : Int32))] []))
  rw [(by decide : ((2 : Int32) + (1 : Int32)) = (3 : Int32))]
  show Goes p e below QQ (s₁.setTop (mkF m 95 #[rv a1, iv p2, iv (x0 &&& (255 : Int32)), iv ((((((x0 &&& (255 : Int32)) &&& (7 : Int32)) <<< ((6 : Int32) &&& 31)) ||| (x1 &&& (63 : Int32))) <<< ((6 : Int32) &&& 31)) ||| (x2 &&& (63 : Int32))), iv 4, iv 3] []))
  refine Goes.on (fun t k => XS.goto X0.here hx rfl (pc0 := 95) (pc' := 70) rfl (hb hby d1_95) (by decide) (by decide) k) ?_
  show Goes p e below QQ (s₁.setTop (mkF m 70 #[rv a1, iv p2, iv (x0 &&& (255 : Int32)), iv ((((((x0 &&& (255 : Int32)) &&& (7 : Int32)) <<< ((6 : Int32) &&& 31)) ||| (x1 &&& (63 : Int32))) <<< ((6 : Int32) &&& 31)) ||| (x2 &&& (63 : Int32))), iv 4, iv 3] []))
  refine Goes.on (fun t k => XS.iload X0.here hx rfl (hb hby d1_70) rfl k) ?_
  show Goes p e below QQ (s₁.setTop (mkF m 72 #[rv a1, iv p2, iv (x0 &&& (255 : Int32)), iv ((((((x0 &&& (255 : Int32)) &&& (7 : Int32)) <<< ((6 : Int32) &&& 31)) ||| (x1 &&& (63 : Int32))) <<< ((6 : Int32) &&& 31)) ||| (x2 &&& (63 : Int32))), iv 4, iv 3] [(.int 3)]))
  refine Goes.on (fun t k => XS.iload X0.here hx rfl (hb hby d1_72) rfl k) ?_
  show Goes p e below QQ (s₁.setTop (mkF m 74 #[rv a1, iv p2, iv (x0 &&& (255 : Int32)), iv ((((((x0 &&& (255 : Int32)) &&& (7 : Int32)) <<< ((6 : Int32) &&& 31)) ||| (x1 &&& (63 : Int32))) <<< ((6 : Int32) &&& 31)) ||| (x2 &&& (63 : Int32))), iv 4, iv 3] [(.int 4), (.int 3)]))
  refine Goes.on (fun t k => XS.icmpNo X0.here hx rfl (hb hby d1_74) rfl (tlt (by decide)).2.1 k) ?_
  show Goes p e below QQ (s₁.setTop (mkF m 77 #[rv a1, iv p2, iv (x0 &&& (255 : Int32)), iv ((((((x0 &&& (255 : Int32)) &&& (7 : Int32)) <<< ((6 : Int32) &&& 31)) ||| (x1 &&& (63 : Int32))) <<< ((6 : Int32) &&& 31)) ||| (x2 &&& (63 : Int32))), iv 4, iv 3] []))
  refine Goes.on (fun t k => XS.iloadN X0.here hx rfl (hb hby d1_77) rfl k) ?_
  show Goes p e below QQ (s₁.setTop (mkF m 78 #[rv a1, iv p2, iv (x0 &&& (255 : Int32)), iv ((((((x0 &&& (255 : Int32)) &&& (7 : Int32)) <<< ((6 : Int32) &&& 31)) ||| (x1 &&& (63 : Int32))) <<< ((6 : Int32) &&& 31)) ||| (x2 &&& (63 : Int32))), iv 4, iv 3] [(.int ((((((x0 &&& (255 : Int32)) &&& (7 : Int32)) <<< ((6 : Int32) &&& 31)) ||| (x1 &&& (63 : Int32))) <<< ((6 : Int32) &&& 31)) ||| (x2 &&& (63 : Int32))))]))
  refine Goes.on (fun t k => XS.bipush X0.here hx rfl (hb hby d1_78) k) ?_
  show Goes p e below QQ (s₁.setTop (mkF m 80 #[rv a1, iv p2, iv (x0 &&& (255 : Int32)), iv ((((((x0 &&& (255 : Int32)) &&& (7 : Int32)) <<< ((6 : Int32) &&& 31)) ||| (x1 &&& (63 : Int32))) <<< ((6 : Int32) &&& 31)) ||| (x2 &&& (63 : Int32))), iv 4, iv 3] [(.int 6), (.int ((((((x0 &&& (255 : Int32)) &&& (7 : Int32)) <<< ((6 : Int32) &&& 31)) ||| (x1 &&& (63 : Int32))) <<< ((6 : Int32) &&& 31)) ||| (x2 &&& (63 : Int32))))]))
  refine Goes.on (fun t k => XS.ishl X0.here hx rfl (hb hby d1_80) rfl k) ?_
  show Goes p e below QQ (s₁.setTop (mkF m 81 #[rv a1, iv p2, iv (x0 &&& (255 : Int32)), iv ((((((x0 &&& (255 : Int32)) &&& (7 : Int32)) <<< ((6 : Int32) &&& 31)) ||| (x1 &&& (63 : Int32))) <<< ((6 : Int32) &&& 31)) ||| (x2 &&& (63 : Int32))), iv 4, iv 3] [(.int (((((((x0 &&& (255 : Int32)) &&& (7 : Int32)) <<< ((6 : Int32) &&& 31)) ||| (x1 &&& (63 : Int32))) <<< ((6 : Int32) &&& 31)) ||| (x2 &&& (63 : Int32))) <<< ((6 : Int32) &&& 31)))]))
  refine Goes.on (fun t k => XS.aloadN X0.here hx rfl (hb hby d1_81) rfl rfl k) ?_
  show Goes p e below QQ (s₁.setTop (mkF m 82 #[rv a1, iv p2, iv (x0 &&& (255 : Int32)), iv ((((((x0 &&& (255 : Int32)) &&& (7 : Int32)) <<< ((6 : Int32) &&& 31)) ||| (x1 &&& (63 : Int32))) <<< ((6 : Int32) &&& 31)) ||| (x2 &&& (63 : Int32))), iv 4, iv 3] [(.ref a1), (.int (((((((x0 &&& (255 : Int32)) &&& (7 : Int32)) <<< ((6 : Int32) &&& 31)) ||| (x1 &&& (63 : Int32))) <<< ((6 : Int32) &&& 31)) ||| (x2 &&& (63 : Int32))) <<< ((6 : Int32) &&& 31)))]))
  refine Goes.on (fun t k => XS.iloadN X0.here hx rfl (hb hby d1_82) rfl k) ?_
  show Goes p e below QQ (s₁.setTop (mkF m 83 #[rv a1, iv p2, iv (x0 &&& (255 : Int32)), iv ((((((x0 &&& (255 : Int32)) &&& (7 : Int32)) <<< ((6 : Int32) &&& 31)) ||| (x1 &&& (63 : Int32))) <<< ((6 : Int32) &&& 31)) ||| (x2 &&& (63 : Int32))), iv 4, iv 3] [(.int p2), (.ref a1), (.int (((((((x0 &&& (255 : Int32)) &&& (7 : Int32)) <<< ((6 : Int32) &&& 31)) ||| (x1 &&& (63 : Int32))) <<< ((6 : Int32) &&& 31)) ||| (x2 &&& (63 : Int32))) <<< ((6 : Int32) &&& 31)))]))
  refine Goes.on (fun t k => XS.iload X0.here hx rfl (hb hby d1_83) rfl k) ?_
  show Goes p e below QQ (s₁.setTop (mkF m 85 #[rv a1, iv p2, iv (x0 &&& (255 : Int32)), iv ((((((x0 &&& (255 : Int32)) &&& (7 : Int32)) <<< ((6 : Int32) &&& 31)) ||| (x1 &&& (63 : Int32))) <<< ((6 : Int32) &&& 31)) ||| (x2 &&& (63 : Int32))), iv 4, iv 3] [(.int 3), (.int p2), (.ref a1), (.int (((((((x0 &&& (255 : Int32)) &&& (7 : Int32)) <<< ((6 : Int32) &&& 31)) ||| (x1 &&& (63 : Int32))) <<< ((6 : Int32) &&& 31)) ||| (x2 &&& (63 : Int32))) <<< ((6 : Int32) &&& 31)))]))
  refine Goes.on (fun t k => XS.iadd X0.here hx rfl (hb hby d1_85) rfl k) ?_
  show Goes p e below QQ (s₁.setTop (mkF m 86 #[rv a1, iv p2, iv (x0 &&& (255 : Int32)), iv ((((((x0 &&& (255 : Int32)) &&& (7 : Int32)) <<< ((6 : Int32) &&& 31)) ||| (x1 &&& (63 : Int32))) <<< ((6 : Int32) &&& 31)) ||| (x2 &&& (63 : Int32))), iv 4, iv 3] [(.int (p2 + (3 : Int32))), (.ref a1), (.int (((((((x0 &&& (255 : Int32)) &&& (7 : Int32)) <<< ((6 : Int32) &&& 31)) ||| (x1 &&& (63 : Int32))) <<< ((6 : Int32) &&& 31)) ||| (x2 &&& (63 : Int32))) <<< ((6 : Int32) &&& 31)))]))
  obtain ⟨cl4, Ar4, aq4, aS4, aN4, aH4, aG4⟩ := id V_a1
  have hin4 := inb_of (j := (p2 + (3 : Int32))) aS4 I3
  have hat4 := Has.at (v := (.int x3)) aH4 hin4 G3
  refine Goes.on (fun t k => X0.baloadBytes hx (j := (p2 + (3 : Int32))) (v := (.int x3)) (by rw [e0]; exact Ar4.1) (State.isArrayOf_alike hZ.alike Ar4.2.1) Ar4.2.2 hin4 hat4 (g := (mkF m 86 #[rv a1, iv p2, iv (x0 &&& (255 : Int32)), iv ((((((x0 &&& (255 : Int32)) &&& (7 : Int32)) <<< ((6 : Int32) &&& 31)) ||| (x1 &&& (63 : Int32))) <<< ((6 : Int32) &&& 31)) ||| (x2 &&& (63 : Int32))), iv 4, iv 3] [(.int (p2 + (3 : Int32))), (.ref a1), (.int (((((((x0 &&& (255 : Int32)) &&& (7 : Int32)) <<< ((6 : Int32) &&& 31)) ||| (x1 &&& (63 : Int32))) <<< ((6 : Int32) &&& 31)) ||| (x2 &&& (63 : Int32))) <<< ((6 : Int32) &&& 31)))])) rfl rfl (hb hby d1_86) t k) ?_
  show Goes p e below QQ (s₁.setTop (mkF m 87 #[rv a1, iv p2, iv (x0 &&& (255 : Int32)), iv ((((((x0 &&& (255 : Int32)) &&& (7 : Int32)) <<< ((6 : Int32) &&& 31)) ||| (x1 &&& (63 : Int32))) <<< ((6 : Int32) &&& 31)) ||| (x2 &&& (63 : Int32))), iv 4, iv 3] [(.int x3), (.int (((((((x0 &&& (255 : Int32)) &&& (7 : Int32)) <<< ((6 : Int32) &&& 31)) ||| (x1 &&& (63 : Int32))) <<< ((6 : Int32) &&& 31)) ||| (x2 &&& (63 : Int32))) <<< ((6 : Int32) &&& 31)))]))
  refine Goes.on (fun t k => XS.bipush X0.here hx rfl (hb hby d1_87) k) ?_
  show Goes p e below QQ (s₁.setTop (mkF m 89 #[rv a1, iv p2, iv (x0 &&& (255 : Int32)), iv ((((((x0 &&& (255 : Int32)) &&& (7 : Int32)) <<< ((6 : Int32) &&& 31)) ||| (x1 &&& (63 : Int32))) <<< ((6 : Int32) &&& 31)) ||| (x2 &&& (63 : Int32))), iv 4, iv 3] [(.int 63), (.int x3), (.int (((((((x0 &&& (255 : Int32)) &&& (7 : Int32)) <<< ((6 : Int32) &&& 31)) ||| (x1 &&& (63 : Int32))) <<< ((6 : Int32) &&& 31)) ||| (x2 &&& (63 : Int32))) <<< ((6 : Int32) &&& 31)))]))
  refine Goes.on (fun t k => XS.iand X0.here hx rfl (hb hby d1_89) rfl k) ?_
  show Goes p e below QQ (s₁.setTop (mkF m 90 #[rv a1, iv p2, iv (x0 &&& (255 : Int32)), iv ((((((x0 &&& (255 : Int32)) &&& (7 : Int32)) <<< ((6 : Int32) &&& 31)) ||| (x1 &&& (63 : Int32))) <<< ((6 : Int32) &&& 31)) ||| (x2 &&& (63 : Int32))), iv 4, iv 3] [(.int (x3 &&& (63 : Int32))), (.int (((((((x0 &&& (255 : Int32)) &&& (7 : Int32)) <<< ((6 : Int32) &&& 31)) ||| (x1 &&& (63 : Int32))) <<< ((6 : Int32) &&& 31)) ||| (x2 &&& (63 : Int32))) <<< ((6 : Int32) &&& 31)))]))
  refine Goes.on (fun t k => XS.ior X0.here hx rfl (hb hby d1_90) rfl k) ?_
  show Goes p e below QQ (s₁.setTop (mkF m 91 #[rv a1, iv p2, iv (x0 &&& (255 : Int32)), iv ((((((x0 &&& (255 : Int32)) &&& (7 : Int32)) <<< ((6 : Int32) &&& 31)) ||| (x1 &&& (63 : Int32))) <<< ((6 : Int32) &&& 31)) ||| (x2 &&& (63 : Int32))), iv 4, iv 3] [(.int ((((((((x0 &&& (255 : Int32)) &&& (7 : Int32)) <<< ((6 : Int32) &&& 31)) ||| (x1 &&& (63 : Int32))) <<< ((6 : Int32) &&& 31)) ||| (x2 &&& (63 : Int32))) <<< ((6 : Int32) &&& 31)) ||| (x3 &&& (63 : Int32))))]))
  refine Goes.on (fun t k => XS.istoreN X0.here hx rfl (hb hby d1_91) rfl (l' := #[rv a1, iv p2, iv (x0 &&& (255 : Int32)), iv ((((((((x0 &&& (255 : Int32)) &&& (7 : Int32)) <<< ((6 : Int32) &&& 31)) ||| (x1 &&& (63 : Int32))) <<< ((6 : Int32) &&& 31)) ||| (x2 &&& (63 : Int32))) <<< ((6 : Int32) &&& 31)) ||| (x3 &&& (63 : Int32))), iv 4, iv 3]) rfl k) ?_
  show Goes p e below QQ (s₁.setTop (mkF m 92 #[rv a1, iv p2, iv (x0 &&& (255 : Int32)), iv ((((((((x0 &&& (255 : Int32)) &&& (7 : Int32)) <<< ((6 : Int32) &&& 31)) ||| (x1 &&& (63 : Int32))) <<< ((6 : Int32) &&& 31)) ||| (x2 &&& (63 : Int32))) <<< ((6 : Int32) &&& 31)) ||| (x3 &&& (63 : Int32))), iv 4, iv 3] []))
  refine Goes.on (fun t k => XS.iinc X0.here hx rfl (hb hby d1_92) rfl (l' := #[rv a1, iv p2, iv (x0 &&& (255 : Int32)), iv ((((((((x0 &&& (255 : Int32)) &&& (7 : Int32)) <<< ((6 : Int32) &&& 31)) ||| (x1 &&& (63 : Int32))) <<< ((6 : Int32) &&& 31)) ||| (x2 &&& (63 : Int32))) <<< ((6 : Int32) &&& 31)) ||| (x3 &&& (63 : Int32))), iv 4, iv ((3 : Int32) + (1 : Int32))]) rfl k) ?_
  show Goes p e below QQ (s₁.setTop (mkF m 95 #[rv a1, iv p2, iv (x0 &&& (255 : Int32)), iv ((((((((x0 &&& (255 : Int32)) &&& (7 : Int32)) <<< ((6 : Int32) &&& 31)) ||| (x1 &&& (63 : Int32))) <<< ((6 : Int32) &&& 31)) ||| (x2 &&& (63 : Int32))) <<< ((6 : Int32) &&& 31)) ||| (x3 &&& (63 : Int32))), iv 4, iv ((3 : Int32) + (1 : Int32))] []))
  rw [(by decide : ((3 : Int32) + (1 : Int32)) = (4 : Int32))]
  show Goes p e below QQ (s₁.setTop (mkF m 95 #[rv a1, iv p2, iv (x0 &&& (255 : Int32)), iv ((((((((x0 &&& (255 : Int32)) &&& (7 : Int32)) <<< ((6 : Int32) &&& 31)) ||| (x1 &&& (63 : Int32))) <<< ((6 : Int32) &&& 31)) ||| (x2 &&& (63 : Int32))) <<< ((6 : Int32) &&& 31)) ||| (x3 &&& (63 : Int32))), iv 4, iv 4] []))
  refine Goes.on (fun t k => XS.goto X0.here hx rfl (pc0 := 95) (pc' := 70) rfl (hb hby d1_95) (by decide) (by decide) k) ?_
  show Goes p e below QQ (s₁.setTop (mkF m 70 #[rv a1, iv p2, iv (x0 &&& (255 : Int32)), iv ((((((((x0 &&& (255 : Int32)) &&& (7 : Int32)) <<< ((6 : Int32) &&& 31)) ||| (x1 &&& (63 : Int32))) <<< ((6 : Int32) &&& 31)) ||| (x2 &&& (63 : Int32))) <<< ((6 : Int32) &&& 31)) ||| (x3 &&& (63 : Int32))), iv 4, iv 4] []))
  refine Goes.on (fun t k => XS.iload X0.here hx rfl (hb hby d1_70) rfl k) ?_
  show Goes p e below QQ (s₁.setTop (mkF m 72 #[rv a1, iv p2, iv (x0 &&& (255 : Int32)), iv ((((((((x0 &&& (255 : Int32)) &&& (7 : Int32)) <<< ((6 : Int32) &&& 31)) ||| (x1 &&& (63 : Int32))) <<< ((6 : Int32) &&& 31)) ||| (x2 &&& (63 : Int32))) <<< ((6 : Int32) &&& 31)) ||| (x3 &&& (63 : Int32))), iv 4, iv 4] [(.int 4)]))
  refine Goes.on (fun t k => XS.iload X0.here hx rfl (hb hby d1_72) rfl k) ?_
  show Goes p e below QQ (s₁.setTop (mkF m 74 #[rv a1, iv p2, iv (x0 &&& (255 : Int32)), iv ((((((((x0 &&& (255 : Int32)) &&& (7 : Int32)) <<< ((6 : Int32) &&& 31)) ||| (x1 &&& (63 : Int32))) <<< ((6 : Int32) &&& 31)) ||| (x2 &&& (63 : Int32))) <<< ((6 : Int32) &&& 31)) ||| (x3 &&& (63 : Int32))), iv 4, iv 4] [(.int 4), (.int 4)]))
  refine Goes.on (fun t k => XS.icmpYes X0.here hx rfl (pc0 := 74) (pc' := 98) rfl (hb hby d1_74) rfl (flt (by decide)).2.1 (by decide) (by decide) k) ?_
  show Goes p e below QQ (s₁.setTop (mkF m 98 #[rv a1, iv p2, iv (x0 &&& (255 : Int32)), iv ((((((((x0 &&& (255 : Int32)) &&& (7 : Int32)) <<< ((6 : Int32) &&& 31)) ||| (x1 &&& (63 : Int32))) <<< ((6 : Int32) &&& 31)) ||| (x2 &&& (63 : Int32))) <<< ((6 : Int32) &&& 31)) ||| (x3 &&& (63 : Int32))), iv 4, iv 4] []))
  refine Goes.on (fun t k => XS.iloadN X0.here hx rfl (hb hby d1_98) rfl k) ?_
  show Goes p e below QQ (s₁.setTop (mkF m 99 #[rv a1, iv p2, iv (x0 &&& (255 : Int32)), iv ((((((((x0 &&& (255 : Int32)) &&& (7 : Int32)) <<< ((6 : Int32) &&& 31)) ||| (x1 &&& (63 : Int32))) <<< ((6 : Int32) &&& 31)) ||| (x2 &&& (63 : Int32))) <<< ((6 : Int32) &&& 31)) ||| (x3 &&& (63 : Int32))), iv 4, iv 4] [(.int ((((((((x0 &&& (255 : Int32)) &&& (7 : Int32)) <<< ((6 : Int32) &&& 31)) ||| (x1 &&& (63 : Int32))) <<< ((6 : Int32) &&& 31)) ||| (x2 &&& (63 : Int32))) <<< ((6 : Int32) &&& 31)) ||| (x3 &&& (63 : Int32))))]))
  exact Goes.rI X0 hx hret hlk (hb hby d1_99) hQQ ⟨rfl, N0, e0⟩ (by decide) (by decide)
theorem own_four (x1 : Int32) : (x1 &&& (3 : Int32)) = (0 : Int32) ∨ (x1 &&& (3 : Int32)) = (1 : Int32) ∨ (x1 &&& (3 : Int32)) = (2 : Int32) ∨ (x1 &&& (3 : Int32)) = (3 : Int32) := by
  have q := c_mask x1 3 2 (by decide) (by decide)
  have e0 : (0 : Int32).toInt = 0 := by decide
  have e1 : (1 : Int32).toInt = 1 := by decide
  have e2 : (2 : Int32).toInt = 2 := by decide
  have e3 : (3 : Int32).toInt = 3 := by decide
  rw [← Int32.toInt_inj, ← Int32.toInt_inj, ← Int32.toInt_inj, ← Int32.toInt_inj, e0, e1, e2, e3]
  omega
theorem own_byte (y : Int32) : (y.toInt8.toInt32.toInt8.toInt32 &&& (255 : Int32)).toInt = y.toInt % 256 := by
  have q := c_mask y.toInt8.toInt32.toInt8.toInt32 255 8 (by decide) (by decide)
  have a1 := c_i2b y
  have a2 := c_i2b y.toInt8.toInt32
  omega
theorem own_b63 (y : Int32) : (y.toInt8.toInt32.toInt8.toInt32 &&& (63 : Int32)).toInt = y.toInt % 64 := by
  have q := c_mask y.toInt8.toInt32.toInt8.toInt32 63 6 (by decide) (by decide)
  have a1 := c_i2b y
  have a2 := c_i2b y.toInt8.toInt32
  omega
theorem own_or (u w : Int32) (k : Nat) (P : Int) (hk : k ≤ 31) (hP : P = (2 ^ k : Nat)) (h1 : u.toInt % P = 0) (h2 : 0 ≤ w.toInt) (h3 : w.toInt < P) (h4 : 0 ≤ u.toInt) (h5 : u.toInt + w.toInt < 2147483648) : (u ||| w).toInt = u.toInt + w.toInt := by
  have q := c_or u w k hk P hP h1 h2 h3
  have r := rng32 (u ||| w)
  omega
theorem own_shl6 (u : Int32) (h : 0 ≤ u.toInt) (h2 : u.toInt * 64 < 2147483648) : (u <<< ((6 : Int32) &&& 31)).toInt = u.toInt * 64 := by
  have q := c_ishl u 6 6 (by decide)
  have r := rng32 (u <<< ((6 : Int32) &&& 31))
  omega
theorem own_shr6 (u : Int32) : (u >>> ((6 : Int32) &&& 31)).toInt = u.toInt / 64 := c_ishr u 6 6 (by decide)
theorem own_shr12 (u : Int32) : (u >>> ((12 : Int32) &&& 31)).toInt = u.toInt / 4096 := c_ishr u 12 12 (by decide)
theorem own_shr18 (u : Int32) : (u >>> ((18 : Int32) &&& 31)).toInt = u.toInt / 262144 := c_ishr u 18 18 (by decide)
theorem own_m63 (u : Int32) : (u &&& (63 : Int32)).toInt = u.toInt % 64 := c_mask u 63 6 (by decide) (by decide)
theorem own_m31 (u : Int32) : (u &&& (31 : Int32)).toInt = u.toInt % 32 := c_mask u 31 5 (by decide) (by decide)
theorem own_m15 (u : Int32) : (u &&& (15 : Int32)).toInt = u.toInt % 16 := c_mask u 15 4 (by decide) (by decide)
theorem own_m7 (u : Int32) : (u &&& (7 : Int32)).toInt = u.toInt % 8 := c_mask u 7 3 (by decide) (by decide)


theorem own_lead2 (cp : Int32) (hcp : 128 ≤ cp.toInt ∧ cp.toInt < 2048) : (((192 : Int32) ||| (cp >>> ((6 : Int32) &&& 31)))).toInt = 192 + cp.toInt / 64 := by
  have q := own_shr6 cp
  have e : (192 : Int32).toInt = 192 := by decide
  have r := own_or (192 : Int32) (cp >>> ((6 : Int32) &&& 31)) 5 32 (by decide) rfl (by omega) (by omega) (by omega) (by omega) (by omega)
  omega
theorem own_lead3 (cp : Int32) (hcp : 2048 ≤ cp.toInt ∧ cp.toInt < 65536) : (((224 : Int32) ||| (cp >>> ((12 : Int32) &&& 31)))).toInt = 224 + cp.toInt / 4096 := by
  have q := own_shr12 cp
  have e : (224 : Int32).toInt = 224 := by decide
  have r := own_or (224 : Int32) (cp >>> ((12 : Int32) &&& 31)) 4 16 (by decide) rfl (by omega) (by omega) (by omega) (by omega) (by omega)
  omega
theorem own_lead4 (cp : Int32) (hcp : 65536 ≤ cp.toInt ∧ cp.toInt < 1114112) : (((240 : Int32) ||| (cp >>> ((18 : Int32) &&& 31)))).toInt = 240 + cp.toInt / 262144 := by
  have q := own_shr18 cp
  have e : (240 : Int32).toInt = 240 := by decide
  have r := own_or (240 : Int32) (cp >>> ((18 : Int32) &&& 31)) 3 8 (by decide) rfl (by omega) (by omega) (by omega) (by omega) (by omega)
  omega
theorem own_tail (u : Int32) : ((128 : Int32) ||| (u &&& (63 : Int32))).toInt = 128 + u.toInt % 64 := by
  have q := own_m63 u
  have e : (128 : Int32).toInt = 128 := by decide
  have r := own_or (128 : Int32) (u &&& (63 : Int32)) 6 64 (by decide) rfl (by omega) (by omega) (by omega) (by omega) (by omega)
  omega

theorem own_lead1_0 (cp : Int32) (hcp : 0 ≤ cp.toInt ∧ cp.toInt < 128) : (cp.toInt8.toInt32.toInt8.toInt32 &&& (255 : Int32)) < (128 : Int32) := by
  have q := own_byte cp
  have e : (128 : Int32).toInt = 128 := by decide
  rw [Int32.lt_iff_toInt_lt, e]
  omega
theorem own_lead2_0 (cp : Int32) (hcp : 128 ≤ cp.toInt ∧ cp.toInt < 2048) : ¬ (((192 : Int32) ||| (cp >>> ((6 : Int32) &&& 31))).toInt8.toInt32.toInt8.toInt32 &&& (255 : Int32)) < (128 : Int32) := by
  have q := own_byte ((192 : Int32) ||| (cp >>> ((6 : Int32) &&& 31)))
  have r := own_lead2 cp hcp
  have e : (128 : Int32).toInt = 128 := by decide
  rw [Int32.lt_iff_toInt_lt, e]
  omega
theorem own_lead2_1 (cp : Int32) (hcp : 128 ≤ cp.toInt ∧ cp.toInt < 2048) : (((192 : Int32) ||| (cp >>> ((6 : Int32) &&& 31))).toInt8.toInt32.toInt8.toInt32 &&& (255 : Int32)) < (224 : Int32) := by
  have q := own_byte ((192 : Int32) ||| (cp >>> ((6 : Int32) &&& 31)))
  have r := own_lead2 cp hcp
  have e : (224 : Int32).toInt = 224 := by decide
  rw [Int32.lt_iff_toInt_lt, e]
  omega
theorem own_lead3_0 (cp : Int32) (hcp : 2048 ≤ cp.toInt ∧ cp.toInt < 65536) : ¬ (((224 : Int32) ||| (cp >>> ((12 : Int32) &&& 31))).toInt8.toInt32.toInt8.toInt32 &&& (255 : Int32)) < (128 : Int32) := by
  have q := own_byte ((224 : Int32) ||| (cp >>> ((12 : Int32) &&& 31)))
  have r := own_lead3 cp hcp
  have e : (128 : Int32).toInt = 128 := by decide
  rw [Int32.lt_iff_toInt_lt, e]
  omega
theorem own_lead3_1 (cp : Int32) (hcp : 2048 ≤ cp.toInt ∧ cp.toInt < 65536) : ¬ (((224 : Int32) ||| (cp >>> ((12 : Int32) &&& 31))).toInt8.toInt32.toInt8.toInt32 &&& (255 : Int32)) < (224 : Int32) := by
  have q := own_byte ((224 : Int32) ||| (cp >>> ((12 : Int32) &&& 31)))
  have r := own_lead3 cp hcp
  have e : (224 : Int32).toInt = 224 := by decide
  rw [Int32.lt_iff_toInt_lt, e]
  omega
theorem own_lead3_2 (cp : Int32) (hcp : 2048 ≤ cp.toInt ∧ cp.toInt < 65536) : (((224 : Int32) ||| (cp >>> ((12 : Int32) &&& 31))).toInt8.toInt32.toInt8.toInt32 &&& (255 : Int32)) < (240 : Int32) := by
  have q := own_byte ((224 : Int32) ||| (cp >>> ((12 : Int32) &&& 31)))
  have r := own_lead3 cp hcp
  have e : (240 : Int32).toInt = 240 := by decide
  rw [Int32.lt_iff_toInt_lt, e]
  omega
theorem own_lead4_0 (cp : Int32) (hcp : 65536 ≤ cp.toInt ∧ cp.toInt < 1114112) : ¬ (((240 : Int32) ||| (cp >>> ((18 : Int32) &&& 31))).toInt8.toInt32.toInt8.toInt32 &&& (255 : Int32)) < (128 : Int32) := by
  have q := own_byte ((240 : Int32) ||| (cp >>> ((18 : Int32) &&& 31)))
  have r := own_lead4 cp hcp
  have e : (128 : Int32).toInt = 128 := by decide
  rw [Int32.lt_iff_toInt_lt, e]
  omega
theorem own_lead4_1 (cp : Int32) (hcp : 65536 ≤ cp.toInt ∧ cp.toInt < 1114112) : ¬ (((240 : Int32) ||| (cp >>> ((18 : Int32) &&& 31))).toInt8.toInt32.toInt8.toInt32 &&& (255 : Int32)) < (224 : Int32) := by
  have q := own_byte ((240 : Int32) ||| (cp >>> ((18 : Int32) &&& 31)))
  have r := own_lead4 cp hcp
  have e : (224 : Int32).toInt = 224 := by decide
  rw [Int32.lt_iff_toInt_lt, e]
  omega
theorem own_lead4_2 (cp : Int32) (hcp : 65536 ≤ cp.toInt ∧ cp.toInt < 1114112) : ¬ (((240 : Int32) ||| (cp >>> ((18 : Int32) &&& 31))).toInt8.toInt32.toInt8.toInt32 &&& (255 : Int32)) < (240 : Int32) := by
  have q := own_byte ((240 : Int32) ||| (cp >>> ((18 : Int32) &&& 31)))
  have r := own_lead4 cp hcp
  have e : (240 : Int32).toInt = 240 := by decide
  rw [Int32.lt_iff_toInt_lt, e]
  omega
theorem own_dec1 (cp : Int32) (hcp : 0 ≤ cp.toInt ∧ cp.toInt < 128) : (cp.toInt8.toInt32.toInt8.toInt32 &&& (255 : Int32)) = cp := by
  apply Int32.toInt_inj.mp
  have q0 := own_byte cp
  omega
theorem own_dec2 (cp : Int32) (hcp : 128 ≤ cp.toInt ∧ cp.toInt < 2048) : ((((((192 : Int32) ||| (cp >>> ((6 : Int32) &&& 31))).toInt8.toInt32.toInt8.toInt32 &&& (255 : Int32)) &&& (31 : Int32)) <<< ((6 : Int32) &&& 31)) ||| (((128 : Int32) ||| (cp &&& (63 : Int32))).toInt8.toInt32.toInt8.toInt32 &&& (63 : Int32))) = cp := by
  apply Int32.toInt_inj.mp
  have q0 := own_byte ((192 : Int32) ||| (cp >>> ((6 : Int32) &&& 31)))
  have r := own_lead2 cp hcp
  have d0 := own_m31 (((192 : Int32) ||| (cp >>> ((6 : Int32) &&& 31))).toInt8.toInt32.toInt8.toInt32 &&& (255 : Int32))
  have q1 := own_b63 ((128 : Int32) ||| (cp &&& (63 : Int32)))
  have t1 := own_tail cp
  have s6 := own_shr6 cp
  have s12 := own_shr12 cp
  generalize (((192 : Int32) ||| (cp >>> ((6 : Int32) &&& 31))).toInt8.toInt32.toInt8.toInt32 &&& (255 : Int32)) = y0 at *
  generalize (((128 : Int32) ||| (cp &&& (63 : Int32))).toInt8.toInt32.toInt8.toInt32 &&& (63 : Int32)) = y1 at *
  generalize (y0 &&& (31 : Int32)) = z0 at *
  have f1 := own_shl6 z0 (by omega) (by omega)
  have g1 := own_or (z0 <<< ((6 : Int32) &&& 31)) y1 6 64 (by decide) rfl (by omega) (by omega) (by omega) (by omega) (by omega)
  generalize ((z0 <<< ((6 : Int32) &&& 31)) ||| y1) = z1 at *
  omega
theorem own_dec3 (cp : Int32) (hcp : 2048 ≤ cp.toInt ∧ cp.toInt < 65536) : ((((((((224 : Int32) ||| (cp >>> ((12 : Int32) &&& 31))).toInt8.toInt32.toInt8.toInt32 &&& (255 : Int32)) &&& (15 : Int32)) <<< ((6 : Int32) &&& 31)) ||| (((128 : Int32) ||| ((cp >>> ((6 : Int32) &&& 31)) &&& (63 : Int32))).toInt8.toInt32.toInt8.toInt32 &&& (63 : Int32))) <<< ((6 : Int32) &&& 31)) ||| (((128 : Int32) ||| (cp &&& (63 : Int32))).toInt8.toInt32.toInt8.toInt32 &&& (63 : Int32))) = cp := by
  apply Int32.toInt_inj.mp
  have q0 := own_byte ((224 : Int32) ||| (cp >>> ((12 : Int32) &&& 31)))
  have r := own_lead3 cp hcp
  have d0 := own_m15 (((224 : Int32) ||| (cp >>> ((12 : Int32) &&& 31))).toInt8.toInt32.toInt8.toInt32 &&& (255 : Int32))
  have q1 := own_b63 ((128 : Int32) ||| ((cp >>> ((6 : Int32) &&& 31)) &&& (63 : Int32)))
  have t1 := own_tail (cp >>> ((6 : Int32) &&& 31))
  have q2 := own_b63 ((128 : Int32) ||| (cp &&& (63 : Int32)))
  have t2 := own_tail cp
  have s6 := own_shr6 cp
  have s12 := own_shr12 cp
  generalize (((224 : Int32) ||| (cp >>> ((12 : Int32) &&& 31))).toInt8.toInt32.toInt8.toInt32 &&& (255 : Int32)) = y0 at *
  generalize (((128 : Int32) ||| ((cp >>> ((6 : Int32) &&& 31)) &&& (63 : Int32))).toInt8.toInt32.toInt8.toInt32 &&& (63 : Int32)) = y1 at *
  generalize (((128 : Int32) ||| (cp &&& (63 : Int32))).toInt8.toInt32.toInt8.toInt32 &&& (63 : Int32)) = y2 at *
  generalize (y0 &&& (15 : Int32)) = z0 at *
  have f1 := own_shl6 z0 (by omega) (by omega)
  have g1 := own_or (z0 <<< ((6 : Int32) &&& 31)) y1 6 64 (by decide) rfl (by omega) (by omega) (by omega) (by omega) (by omega)
  generalize ((z0 <<< ((6 : Int32) &&& 31)) ||| y1) = z1 at *
  have f2 := own_shl6 z1 (by omega) (by omega)
  have g2 := own_or (z1 <<< ((6 : Int32) &&& 31)) y2 6 64 (by decide) rfl (by omega) (by omega) (by omega) (by omega) (by omega)
  generalize ((z1 <<< ((6 : Int32) &&& 31)) ||| y2) = z2 at *
  omega
theorem own_dec4 (cp : Int32) (hcp : 65536 ≤ cp.toInt ∧ cp.toInt < 1114112) : ((((((((((240 : Int32) ||| (cp >>> ((18 : Int32) &&& 31))).toInt8.toInt32.toInt8.toInt32 &&& (255 : Int32)) &&& (7 : Int32)) <<< ((6 : Int32) &&& 31)) ||| (((128 : Int32) ||| ((cp >>> ((12 : Int32) &&& 31)) &&& (63 : Int32))).toInt8.toInt32.toInt8.toInt32 &&& (63 : Int32))) <<< ((6 : Int32) &&& 31)) ||| (((128 : Int32) ||| ((cp >>> ((6 : Int32) &&& 31)) &&& (63 : Int32))).toInt8.toInt32.toInt8.toInt32 &&& (63 : Int32))) <<< ((6 : Int32) &&& 31)) ||| (((128 : Int32) ||| (cp &&& (63 : Int32))).toInt8.toInt32.toInt8.toInt32 &&& (63 : Int32))) = cp := by
  apply Int32.toInt_inj.mp
  have q0 := own_byte ((240 : Int32) ||| (cp >>> ((18 : Int32) &&& 31)))
  have r := own_lead4 cp hcp
  have d0 := own_m7 (((240 : Int32) ||| (cp >>> ((18 : Int32) &&& 31))).toInt8.toInt32.toInt8.toInt32 &&& (255 : Int32))
  have q1 := own_b63 ((128 : Int32) ||| ((cp >>> ((12 : Int32) &&& 31)) &&& (63 : Int32)))
  have t1 := own_tail (cp >>> ((12 : Int32) &&& 31))
  have q2 := own_b63 ((128 : Int32) ||| ((cp >>> ((6 : Int32) &&& 31)) &&& (63 : Int32)))
  have t2 := own_tail (cp >>> ((6 : Int32) &&& 31))
  have q3 := own_b63 ((128 : Int32) ||| (cp &&& (63 : Int32)))
  have t3 := own_tail cp
  have s6 := own_shr6 cp
  have s12 := own_shr12 cp
  generalize (((240 : Int32) ||| (cp >>> ((18 : Int32) &&& 31))).toInt8.toInt32.toInt8.toInt32 &&& (255 : Int32)) = y0 at *
  generalize (((128 : Int32) ||| ((cp >>> ((12 : Int32) &&& 31)) &&& (63 : Int32))).toInt8.toInt32.toInt8.toInt32 &&& (63 : Int32)) = y1 at *
  generalize (((128 : Int32) ||| ((cp >>> ((6 : Int32) &&& 31)) &&& (63 : Int32))).toInt8.toInt32.toInt8.toInt32 &&& (63 : Int32)) = y2 at *
  generalize (((128 : Int32) ||| (cp &&& (63 : Int32))).toInt8.toInt32.toInt8.toInt32 &&& (63 : Int32)) = y3 at *
  generalize (y0 &&& (7 : Int32)) = z0 at *
  have f1 := own_shl6 z0 (by omega) (by omega)
  have g1 := own_or (z0 <<< ((6 : Int32) &&& 31)) y1 6 64 (by decide) rfl (by omega) (by omega) (by omega) (by omega) (by omega)
  generalize ((z0 <<< ((6 : Int32) &&& 31)) ||| y1) = z1 at *
  have f2 := own_shl6 z1 (by omega) (by omega)
  have g2 := own_or (z1 <<< ((6 : Int32) &&& 31)) y2 6 64 (by decide) rfl (by omega) (by omega) (by omega) (by omega) (by omega)
  generalize ((z1 <<< ((6 : Int32) &&& 31)) ||| y2) = z2 at *
  have f3 := own_shl6 z2 (by omega) (by omega)
  have g3 := own_or (z2 <<< ((6 : Int32) &&& 31)) y3 6 64 (by decide) rfl (by omega) (by omega) (by omega) (by omega) (by omega)
  generalize ((z2 <<< ((6 : Int32) &&& 31)) ||| y3) = z3 at *
  omega

theorem own_rem (x1 y1 : Int32) (d : Int) (hy : y1.toInt = d) (hd : 0 < d) : 0 ≤ ((x1 &&& (2147483647 : Int32)) % y1).toInt ∧ ((x1 &&& (2147483647 : Int32)) % y1).toInt < d := by
  have q := c_mask x1 2147483647 31 (by decide) (by decide)
  have r := (c_irem (x1 &&& (2147483647 : Int32)) y1 d hy).1 (by omega)
  rw [r]
  exact ⟨Int.emod_nonneg _ (by omega), Int.emod_lt_of_pos _ hd⟩
theorem own_rng1 (x1 : Int32) : 0 ≤ ((x1 &&& (2147483647 : Int32)) &&& (127 : Int32)).toInt ∧ ((x1 &&& (2147483647 : Int32)) &&& (127 : Int32)).toInt < 128 := by
  have q := c_mask (x1 &&& (2147483647 : Int32)) 127 7 (by decide) (by decide)
  omega
theorem own_rng2 (x1 : Int32) : 128 ≤ ((128 : Int32) + ((x1 &&& (2147483647 : Int32)) % (1920 : Int32))).toInt ∧ ((128 : Int32) + ((x1 &&& (2147483647 : Int32)) % (1920 : Int32))).toInt < 2048 := by
  have q := own_rem x1 1920 1920 (by decide) (by decide)
  have r := c_iadd (128 : Int32) ((x1 &&& (2147483647 : Int32)) % (1920 : Int32))
  have e : (128 : Int32).toInt = 128 := by decide
  have s := rng32 ((128 : Int32) + ((x1 &&& (2147483647 : Int32)) % (1920 : Int32)))
  omega
theorem own_rng3 (x1 : Int32) : 2048 ≤ ((2048 : Int32) + ((x1 &&& (2147483647 : Int32)) % (61440 : Int32))).toInt ∧ ((2048 : Int32) + ((x1 &&& (2147483647 : Int32)) % (61440 : Int32))).toInt < 63488 := by
  have q := own_rem x1 61440 61440 (by decide) (by decide)
  have r := c_iadd (2048 : Int32) ((x1 &&& (2147483647 : Int32)) % (61440 : Int32))
  have e : (2048 : Int32).toInt = 2048 := by decide
  have s := rng32 ((2048 : Int32) + ((x1 &&& (2147483647 : Int32)) % (61440 : Int32)))
  omega
theorem own_rng3a (x1 : Int32) (hD : ((2048 : Int32) + ((x1 &&& (2147483647 : Int32)) % (61440 : Int32))) < (55296 : Int32)) : 2048 ≤ ((2048 : Int32) + ((x1 &&& (2147483647 : Int32)) % (61440 : Int32))).toInt ∧ ((2048 : Int32) + ((x1 &&& (2147483647 : Int32)) % (61440 : Int32))).toInt < 65536 := by
  have q := own_rng3 x1
  omega
theorem own_rng3b (x1 : Int32) (hD : ¬ ((2048 : Int32) + ((x1 &&& (2147483647 : Int32)) % (61440 : Int32))) < (55296 : Int32)) : 2048 ≤ (((2048 : Int32) + ((x1 &&& (2147483647 : Int32)) % (61440 : Int32))) + (2048 : Int32)).toInt ∧ (((2048 : Int32) + ((x1 &&& (2147483647 : Int32)) % (61440 : Int32))) + (2048 : Int32)).toInt < 65536 := by
  have q := own_rng3 x1
  have r := c_iadd ((2048 : Int32) + ((x1 &&& (2147483647 : Int32)) % (61440 : Int32))) (2048 : Int32)
  have e : (2048 : Int32).toInt = 2048 := by decide
  have s := rng32 (((2048 : Int32) + ((x1 &&& (2147483647 : Int32)) % (61440 : Int32))) + (2048 : Int32))
  omega
theorem own_rng4 (x1 : Int32) : 65536 ≤ ((65536 : Int32) + ((x1 &&& (2147483647 : Int32)) % (1048576 : Int32))).toInt ∧ ((65536 : Int32) + ((x1 &&& (2147483647 : Int32)) % (1048576 : Int32))).toInt < 1114112 := by
  have q := own_rem x1 1048576 1048576 (by decide) (by decide)
  have r := c_iadd (65536 : Int32) ((x1 &&& (2147483647 : Int32)) % (1048576 : Int32))
  have e : (65536 : Int32).toInt = 65536 := by decide
  have s := rng32 ((65536 : Int32) + ((x1 &&& (2147483647 : Int32)) % (1048576 : Int32)))
  omega
theorem pn_0 : plainFor x = true := plainFor_of_name (show plainName "com/example/sober_links/soberlinks/io/Utf8CodePointAtPinLaw" = true by first | (simp [plainName, overriddenIn]; done) | decide +kernel)
theorem ef_rm0 (m : MethodId) (x0 : Int32) (x1 : Int32) (x2 : Int32) (x3 : Int64) : entryFrame m #[(.int x0), (.int x1), (.int x2), (.long x3)] maxLocals = mkF m 0 #[iv x0, iv x1, iv x2, .val (.long x3), .second, .unset, .unset, .unset, .unset, .unset, .unset] [] := by first | (simp [entryFrame, mkF, argsToLocals, Value.category, maxLocals]; done) | rfl
theorem pd_0 : parseMethodDescriptor "([BI)I" = some ⟨[(.array .byte), .int], some .int⟩ := by decide +kernel
set_option maxRecDepth 65536 in
set_option maxHeartbeats 40000000 in
theorem rm0 (l : Launch) (Z : State) (a0 : Array Value) (hw : ∀ d ∈ tables_1, d.before a0 Z = true) (ws : List Jvm.Cond) (p1 p2 p3 : Int32) (p4 : Int64) (h0 : Heap) (n0 : Nat) (Z0 : n0 ≤ h0.size)  :
    MetFree l x (head1 (Jvm.Cond.code x code maxLocals ret :: ws) room_1) (fun a U => a = #[(.int p1), (.int p2), (.int p3), (.long p4)] ∧ Z.Warmed39 U.vm ∧ U.heap = h0) (fun _ _ _ _ _ => True) (fun _ U o U' => ∃ v L, o = .returned v ∧ QL n0 v U'.heap L ∧ FrameEnd U o U' L 16 128) := by
  refine own_enter pn_0 ?_
  intro p e s m below meth c s₁ QQ hQQ hx hby hml hown hnm hret hlk hZ X0 e0
  have hown : s.vm.findClass "com/example/sober_links/soberlinks/io/Utf8CodePointAtPinLaw" = some m.cls := hown
  have hml : c.maxLocals = 11 := hml
  have hret : meth.sig.returnType = some .boolean := hret
  have N0 := Fr.nil n0
  have K0 := Keep.refl h0 []
  refine Goes.cast (ef_rm0 m p1 p2 p3 p4) ?_
  show Goes p e below QQ (s₁.setTop (mkF m 0 #[iv p1, iv p2, iv p3, .val (.long p4), .second, .unset, .unset, .unset, .unset, .unset, .unset] []))
  have hv4 := own_four p3
  have J1 : ∀ cp : Int32, 0 ≤ cp.toInt ∧ cp.toInt < 128 → Goes p e below QQ (s₁.setTop (mkF m 104 #[iv p1, iv p2, iv p3, .val (.long p4), .second, iv (p1 &&& (3 : Int32)), iv (p2 &&& (2147483647 : Int32)), iv cp, iv 1, .unset, .unset] [])) := by
    intro cp hcp
    show Goes p e below QQ (s₁.setTop (mkF m 104 #[iv p1, iv p2, iv p3, .val (.long p4), .second, iv (p1 &&& (3 : Int32)), iv (p2 &&& (2147483647 : Int32)), iv cp, iv 1, .unset, .unset] []))
    refine Goes.on (fun t k => XS.iloadN X0.here hx rfl (hb hby at_104) rfl k) ?_
    show Goes p e below QQ (s₁.setTop (mkF m 105 #[iv p1, iv p2, iv p3, .val (.long p4), .second, iv (p1 &&& (3 : Int32)), iv (p2 &&& (2147483647 : Int32)), iv cp, iv 1, .unset, .unset] [(.int p3)]))
    refine Goes.on (fun t k => XS.iconst X0.here hx rfl (hb hby at_105) k) ?_
    show Goes p e below QQ (s₁.setTop (mkF m 106 #[iv p1, iv p2, iv p3, .val (.long p4), .second, iv (p1 &&& (3 : Int32)), iv (p2 &&& (2147483647 : Int32)), iv cp, iv 1, .unset, .unset] [(.int 3), (.int p3)]))
    refine Goes.on (fun t k => XS.iand X0.here hx rfl (hb hby at_106) rfl k) ?_
    show Goes p e below QQ (s₁.setTop (mkF m 107 #[iv p1, iv p2, iv p3, .val (.long p4), .second, iv (p1 &&& (3 : Int32)), iv (p2 &&& (2147483647 : Int32)), iv cp, iv 1, .unset, .unset] [(.int (p3 &&& (3 : Int32)))]))
    refine Goes.on (fun t k => XS.istore X0.here hx rfl (hb hby at_107) rfl (l' := #[iv p1, iv p2, iv p3, .val (.long p4), .second, iv (p1 &&& (3 : Int32)), iv (p2 &&& (2147483647 : Int32)), iv cp, iv 1, iv (p3 &&& (3 : Int32)), .unset]) rfl k) ?_
    show Goes p e below QQ (s₁.setTop (mkF m 109 #[iv p1, iv p2, iv p3, .val (.long p4), .second, iv (p1 &&& (3 : Int32)), iv (p2 &&& (2147483647 : Int32)), iv cp, iv 1, iv (p3 &&& (3 : Int32)), .unset] []))
    generalize (p3 &&& (3 : Int32)) = at' at *
    show Goes p e below QQ (s₁.setTop (mkF m 109 #[iv p1, iv p2, iv p3, .val (.long p4), .second, iv (p1 &&& (3 : Int32)), iv (p2 &&& (2147483647 : Int32)), iv cp, iv 1, iv at', .unset] []))
    refine Goes.on (fun t k => XS.bipush X0.here hx rfl (hb hby at_109) k) ?_
    show Goes p e below QQ (s₁.setTop (mkF m 111 #[iv p1, iv p2, iv p3, .val (.long p4), .second, iv (p1 &&& (3 : Int32)), iv (p2 &&& (2147483647 : Int32)), iv cp, iv 1, iv at', .unset] [(.int 8)]))
    obtain ⟨T1, h1, k1, X1, e1, E1, A1, st1⟩ := newP X0 hx hZ (hw _ (List.mem_of_getElem? (i := 1) rfl)) e0 (g := (mkF m 111 #[iv p1, iv p2, iv p3, .val (.long p4), .second, iv (p1 &&& (3 : Int32)), iv (p2 &&& (2147483647 : Int32)), iv cp, iv 1, iv at', .unset] [(.int 8)])) rfl (hb hby at_111) rfl (by decide) (cap := 8) (by decide) (by decide) (by decide) (by decide)
    obtain ⟨b1, g1⟩ : ∃ z, z = h0.size := ⟨_, rfl⟩
    rw [← g1] at A1 st1
    have sz_b1 : h0.size ≤ b1 := Nat.le_trans K0.1 (Nat.le_of_eq g1.symm)
    have g_b1 : n0 ≤ b1 := Nat.le_trans Z0 sz_b1
    have K1 := K0.ext E1
    have V_2 : Arv Z h1 b1 k1 .byte (8 : Int32) [(.int 0), (.int 0), (.int 0), (.int 0), (.int 0), (.int 0), (.int 0), (.int 0)] (.int 0) := (Arv.new A1 (by decide)).pad (pad_rep [] (.int 0) 8)
    refine Goes.on (fun t k => st1 t k) ?_
    show Goes p e below QQ (T1.setTop (mkF m 113 #[iv p1, iv p2, iv p3, .val (.long p4), .second, iv (p1 &&& (3 : Int32)), iv (p2 &&& (2147483647 : Int32)), iv cp, iv 1, iv at', .unset] [(.ref b1)]))
    refine Goes.on (fun t k => XS.astore X1.here hx rfl (hb hby at_113) rfl rfl (l' := #[iv p1, iv p2, iv p3, .val (.long p4), .second, iv (p1 &&& (3 : Int32)), iv (p2 &&& (2147483647 : Int32)), iv cp, iv 1, iv at', rv b1]) rfl k) ?_
    show Goes p e below QQ (T1.setTop (mkF m 115 #[iv p1, iv p2, iv p3, .val (.long p4), .second, iv (p1 &&& (3 : Int32)), iv (p2 &&& (2147483647 : Int32)), iv cp, iv 1, iv at', rv b1] []))
    refine Goes.on (fun t k => XS.aload X1.here hx rfl (hb hby at_115) rfl rfl k) ?_
    show Goes p e below QQ (T1.setTop (mkF m 117 #[iv p1, iv p2, iv p3, .val (.long p4), .second, iv (p1 &&& (3 : Int32)), iv (p2 &&& (2147483647 : Int32)), iv cp, iv 1, iv at', rv b1] [(.ref b1)]))
    refine Goes.on (fun t k => XS.iconst X1.here hx rfl (hb hby at_117) k) ?_
    show Goes p e below QQ (T1.setTop (mkF m 118 #[iv p1, iv p2, iv p3, .val (.long p4), .second, iv (p1 &&& (3 : Int32)), iv (p2 &&& (2147483647 : Int32)), iv cp, iv 1, iv at', rv b1] [(.int 0), (.ref b1)]))
    refine Goes.on (fun t k => XS.lloadN X1.here hx rfl (hb hby at_118) rfl k) ?_
    show Goes p e below QQ (T1.setTop (mkF m 119 #[iv p1, iv p2, iv p3, .val (.long p4), .second, iv (p1 &&& (3 : Int32)), iv (p2 &&& (2147483647 : Int32)), iv cp, iv 1, iv at', rv b1] [(.long p4), (.int 0), (.ref b1)]))
    refine Goes.on (fun t k => XS.l2i X1.here hx rfl (hb hby at_119) rfl k) ?_
    show Goes p e below QQ (T1.setTop (mkF m 120 #[iv p1, iv p2, iv p3, .val (.long p4), .second, iv (p1 &&& (3 : Int32)), iv (p2 &&& (2147483647 : Int32)), iv cp, iv 1, iv at', rv b1] [(.int p4.toInt32), (.int 0), (.ref b1)]))
    refine Goes.on (fun t k => XS.i2b X1.here hx rfl (hb hby at_120) rfl k) ?_
    show Goes p e below QQ (T1.setTop (mkF m 121 #[iv p1, iv p2, iv p3, .val (.long p4), .second, iv (p1 &&& (3 : Int32)), iv (p2 &&& (2147483647 : Int32)), iv cp, iv 1, iv at', rv b1] [(.int p4.toInt32.toInt8.toInt32), (.int 0), (.ref b1)]))
    obtain ⟨cl3, Ar3, aq3, aS3, aN3, aH3, aG3⟩ := id V_2
    have hin3 := inb_of (j := (0 : Int32)) aS3 ⟨by decide, by decide⟩
    obtain ⟨T4, h4, X4, e4, W4, st4⟩ := stB X1 hx hZ e1 Ar3 (j := (0 : Int32)) hin3 (g := (mkF m 121 #[iv p1, iv p2, iv p3, .val (.long p4), .second, iv (p1 &&& (3 : Int32)), iv (p2 &&& (2147483647 : Int32)), iv cp, iv 1, iv at', rv b1] [(.int p4.toInt32.toInt8.toInt32), (.int 0), (.ref b1)])) rfl rfl (hb hby at_121)
    have K4 := K1.wr W4 (Or.inr sz_b1)
    have N4 := Fr.snoc X4 N0 g_b1
    have V_5 : Arv Z h4 b1 k1 .byte (8 : Int32) [(.int p4.toInt32.toInt8.toInt32.toInt8.toInt32), (.int 0), (.int 0), (.int 0), (.int 0), (.int 0), (.int 0), (.int 0)] (.int 0) := Arv.set Ar3 aq3 aS3 aN3 aH3 aG3 (fits_nar_byte _) W4 0 rfl (Nat.le_of_ble_eq_true rfl)
    refine Goes.on (fun t k => st4 t k) ?_
    show Goes p e below QQ (T4.setTop (mkF m 122 #[iv p1, iv p2, iv p3, .val (.long p4), .second, iv (p1 &&& (3 : Int32)), iv (p2 &&& (2147483647 : Int32)), iv cp, iv 1, iv at', rv b1] []))
    refine Goes.on (fun t k => XS.aload X4.here hx rfl (hb hby at_122) rfl rfl k) ?_
    show Goes p e below QQ (T4.setTop (mkF m 124 #[iv p1, iv p2, iv p3, .val (.long p4), .second, iv (p1 &&& (3 : Int32)), iv (p2 &&& (2147483647 : Int32)), iv cp, iv 1, iv at', rv b1] [(.ref b1)]))
    refine Goes.on (fun t k => XS.iconst X4.here hx rfl (hb hby at_124) k) ?_
    show Goes p e below QQ (T4.setTop (mkF m 125 #[iv p1, iv p2, iv p3, .val (.long p4), .second, iv (p1 &&& (3 : Int32)), iv (p2 &&& (2147483647 : Int32)), iv cp, iv 1, iv at', rv b1] [(.int 1), (.ref b1)]))
    refine Goes.on (fun t k => XS.lloadN X4.here hx rfl (hb hby at_125) rfl k) ?_
    show Goes p e below QQ (T4.setTop (mkF m 126 #[iv p1, iv p2, iv p3, .val (.long p4), .second, iv (p1 &&& (3 : Int32)), iv (p2 &&& (2147483647 : Int32)), iv cp, iv 1, iv at', rv b1] [(.long p4), (.int 1), (.ref b1)]))
    refine Goes.on (fun t k => XS.bipush X4.here hx rfl (hb hby at_126) k) ?_
    show Goes p e below QQ (T4.setTop (mkF m 128 #[iv p1, iv p2, iv p3, .val (.long p4), .second, iv (p1 &&& (3 : Int32)), iv (p2 &&& (2147483647 : Int32)), iv cp, iv 1, iv at', rv b1] [(.int 8), (.long p4), (.int 1), (.ref b1)]))
    refine Goes.on (fun t k => XS.lshr X4.here hx rfl (hb hby at_128) rfl k) ?_
    show Goes p e below QQ (T4.setTop (mkF m 129 #[iv p1, iv p2, iv p3, .val (.long p4), .second, iv (p1 &&& (3 : Int32)), iv (p2 &&& (2147483647 : Int32)), iv cp, iv 1, iv at', rv b1] [(.long (p4 >>> ((8 : Int32) &&& 0x3f).toInt64)), (.int 1), (.ref b1)]))
    refine Goes.on (fun t k => XS.l2i X4.here hx rfl (hb hby at_129) rfl k) ?_
    show Goes p e below QQ (T4.setTop (mkF m 130 #[iv p1, iv p2, iv p3, .val (.long p4), .second, iv (p1 &&& (3 : Int32)), iv (p2 &&& (2147483647 : Int32)), iv cp, iv 1, iv at', rv b1] [(.int (p4 >>> ((8 : Int32) &&& 0x3f).toInt64).toInt32), (.int 1), (.ref b1)]))
    refine Goes.on (fun t k => XS.i2b X4.here hx rfl (hb hby at_130) rfl k) ?_
    show Goes p e below QQ (T4.setTop (mkF m 131 #[iv p1, iv p2, iv p3, .val (.long p4), .second, iv (p1 &&& (3 : Int32)), iv (p2 &&& (2147483647 : Int32)), iv cp, iv 1, iv at', rv b1] [(.int (p4 >>> ((8 : Int32) &&& 0x3f).toInt64).toInt32.toInt8.toInt32), (.int 1), (.ref b1)]))
    obtain ⟨cl6, Ar6, aq6, aS6, aN6, aH6, aG6⟩ := id V_5
    have hin6 := inb_of (j := (1 : Int32)) aS6 ⟨by decide, by decide⟩
    obtain ⟨T7, h7, X7, e7, W7, st7⟩ := stB X4 hx hZ e4 Ar6 (j := (1 : Int32)) hin6 (g := (mkF m 131 #[iv p1, iv p2, iv p3, .val (.long p4), .second, iv (p1 &&& (3 : Int32)), iv (p2 &&& (2147483647 : Int32)), iv cp, iv 1, iv at', rv b1] [(.int (p4 >>> ((8 : Int32) &&& 0x3f).toInt64).toInt32.toInt8.toInt32), (.int 1), (.ref b1)])) rfl rfl (hb hby at_131)
    have K7 := K4.wr W7 (Or.inr sz_b1)
    have N7 := Fr.snoc X7 N4 g_b1
    have V_8 : Arv Z h7 b1 k1 .byte (8 : Int32) [(.int p4.toInt32.toInt8.toInt32.toInt8.toInt32), (.int (p4 >>> ((8 : Int32) &&& 0x3f).toInt64).toInt32.toInt8.toInt32.toInt8.toInt32), (.int 0), (.int 0), (.int 0), (.int 0), (.int 0), (.int 0)] (.int 0) := Arv.set Ar6 aq6 aS6 aN6 aH6 aG6 (fits_nar_byte _) W7 1 rfl (Nat.le_of_ble_eq_true rfl)
    refine Goes.on (fun t k => st7 t k) ?_
    show Goes p e below QQ (T7.setTop (mkF m 132 #[iv p1, iv p2, iv p3, .val (.long p4), .second, iv (p1 &&& (3 : Int32)), iv (p2 &&& (2147483647 : Int32)), iv cp, iv 1, iv at', rv b1] []))
    refine Goes.on (fun t k => XS.aload X7.here hx rfl (hb hby at_132) rfl rfl k) ?_
    show Goes p e below QQ (T7.setTop (mkF m 134 #[iv p1, iv p2, iv p3, .val (.long p4), .second, iv (p1 &&& (3 : Int32)), iv (p2 &&& (2147483647 : Int32)), iv cp, iv 1, iv at', rv b1] [(.ref b1)]))
    refine Goes.on (fun t k => XS.iconst X7.here hx rfl (hb hby at_134) k) ?_
    show Goes p e below QQ (T7.setTop (mkF m 135 #[iv p1, iv p2, iv p3, .val (.long p4), .second, iv (p1 &&& (3 : Int32)), iv (p2 &&& (2147483647 : Int32)), iv cp, iv 1, iv at', rv b1] [(.int 2), (.ref b1)]))
    refine Goes.on (fun t k => XS.lloadN X7.here hx rfl (hb hby at_135) rfl k) ?_
    show Goes p e below QQ (T7.setTop (mkF m 136 #[iv p1, iv p2, iv p3, .val (.long p4), .second, iv (p1 &&& (3 : Int32)), iv (p2 &&& (2147483647 : Int32)), iv cp, iv 1, iv at', rv b1] [(.long p4), (.int 2), (.ref b1)]))
    refine Goes.on (fun t k => XS.bipush X7.here hx rfl (hb hby at_136) k) ?_
    show Goes p e below QQ (T7.setTop (mkF m 138 #[iv p1, iv p2, iv p3, .val (.long p4), .second, iv (p1 &&& (3 : Int32)), iv (p2 &&& (2147483647 : Int32)), iv cp, iv 1, iv at', rv b1] [(.int 16), (.long p4), (.int 2), (.ref b1)]))
    refine Goes.on (fun t k => XS.lshr X7.here hx rfl (hb hby at_138) rfl k) ?_
    show Goes p e below QQ (T7.setTop (mkF m 139 #[iv p1, iv p2, iv p3, .val (.long p4), .second, iv (p1 &&& (3 : Int32)), iv (p2 &&& (2147483647 : Int32)), iv cp, iv 1, iv at', rv b1] [(.long (p4 >>> ((16 : Int32) &&& 0x3f).toInt64)), (.int 2), (.ref b1)]))
    refine Goes.on (fun t k => XS.l2i X7.here hx rfl (hb hby at_139) rfl k) ?_
    show Goes p e below QQ (T7.setTop (mkF m 140 #[iv p1, iv p2, iv p3, .val (.long p4), .second, iv (p1 &&& (3 : Int32)), iv (p2 &&& (2147483647 : Int32)), iv cp, iv 1, iv at', rv b1] [(.int (p4 >>> ((16 : Int32) &&& 0x3f).toInt64).toInt32), (.int 2), (.ref b1)]))
    refine Goes.on (fun t k => XS.i2b X7.here hx rfl (hb hby at_140) rfl k) ?_
    show Goes p e below QQ (T7.setTop (mkF m 141 #[iv p1, iv p2, iv p3, .val (.long p4), .second, iv (p1 &&& (3 : Int32)), iv (p2 &&& (2147483647 : Int32)), iv cp, iv 1, iv at', rv b1] [(.int (p4 >>> ((16 : Int32) &&& 0x3f).toInt64).toInt32.toInt8.toInt32), (.int 2), (.ref b1)]))
    obtain ⟨cl9, Ar9, aq9, aS9, aN9, aH9, aG9⟩ := id V_8
    have hin9 := inb_of (j := (2 : Int32)) aS9 ⟨by decide, by decide⟩
    obtain ⟨T10, h10, X10, e10, W10, st10⟩ := stB X7 hx hZ e7 Ar9 (j := (2 : Int32)) hin9 (g := (mkF m 141 #[iv p1, iv p2, iv p3, .val (.long p4), .second, iv (p1 &&& (3 : Int32)), iv (p2 &&& (2147483647 : Int32)), iv cp, iv 1, iv at', rv b1] [(.int (p4 >>> ((16 : Int32) &&& 0x3f).toInt64).toInt32.toInt8.toInt32), (.int 2), (.ref b1)])) rfl rfl (hb hby at_141)
    have K10 := K7.wr W10 (Or.inr sz_b1)
    have N10 := Fr.snoc X10 N7 g_b1
    have V_11 : Arv Z h10 b1 k1 .byte (8 : Int32) [(.int p4.toInt32.toInt8.toInt32.toInt8.toInt32), (.int (p4 >>> ((8 : Int32) &&& 0x3f).toInt64).toInt32.toInt8.toInt32.toInt8.toInt32), (.int (p4 >>> ((16 : Int32) &&& 0x3f).toInt64).toInt32.toInt8.toInt32.toInt8.toInt32), (.int 0), (.int 0), (.int 0), (.int 0), (.int 0)] (.int 0) := Arv.set Ar9 aq9 aS9 aN9 aH9 aG9 (fits_nar_byte _) W10 2 rfl (Nat.le_of_ble_eq_true rfl)
    refine Goes.on (fun t k => st10 t k) ?_
    show Goes p e below QQ (T10.setTop (mkF m 142 #[iv p1, iv p2, iv p3, .val (.long p4), .second, iv (p1 &&& (3 : Int32)), iv (p2 &&& (2147483647 : Int32)), iv cp, iv 1, iv at', rv b1] []))
    refine Goes.on (fun t k => XS.aload X10.here hx rfl (hb hby at_142) rfl rfl k) ?_
    show Goes p e below QQ (T10.setTop (mkF m 144 #[iv p1, iv p2, iv p3, .val (.long p4), .second, iv (p1 &&& (3 : Int32)), iv (p2 &&& (2147483647 : Int32)), iv cp, iv 1, iv at', rv b1] [(.ref b1)]))
    refine Goes.on (fun t k => XS.iconst X10.here hx rfl (hb hby at_144) k) ?_
    show Goes p e below QQ (T10.setTop (mkF m 145 #[iv p1, iv p2, iv p3, .val (.long p4), .second, iv (p1 &&& (3 : Int32)), iv (p2 &&& (2147483647 : Int32)), iv cp, iv 1, iv at', rv b1] [(.int 3), (.ref b1)]))
    refine Goes.on (fun t k => XS.lloadN X10.here hx rfl (hb hby at_145) rfl k) ?_
    show Goes p e below QQ (T10.setTop (mkF m 146 #[iv p1, iv p2, iv p3, .val (.long p4), .second, iv (p1 &&& (3 : Int32)), iv (p2 &&& (2147483647 : Int32)), iv cp, iv 1, iv at', rv b1] [(.long p4), (.int 3), (.ref b1)]))
    refine Goes.on (fun t k => XS.bipush X10.here hx rfl (hb hby at_146) k) ?_
    show Goes p e below QQ (T10.setTop (mkF m 148 #[iv p1, iv p2, iv p3, .val (.long p4), .second, iv (p1 &&& (3 : Int32)), iv (p2 &&& (2147483647 : Int32)), iv cp, iv 1, iv at', rv b1] [(.int 24), (.long p4), (.int 3), (.ref b1)]))
    refine Goes.on (fun t k => XS.lshr X10.here hx rfl (hb hby at_148) rfl k) ?_
    show Goes p e below QQ (T10.setTop (mkF m 149 #[iv p1, iv p2, iv p3, .val (.long p4), .second, iv (p1 &&& (3 : Int32)), iv (p2 &&& (2147483647 : Int32)), iv cp, iv 1, iv at', rv b1] [(.long (p4 >>> ((24 : Int32) &&& 0x3f).toInt64)), (.int 3), (.ref b1)]))
    refine Goes.on (fun t k => XS.l2i X10.here hx rfl (hb hby at_149) rfl k) ?_
    show Goes p e below QQ (T10.setTop (mkF m 150 #[iv p1, iv p2, iv p3, .val (.long p4), .second, iv (p1 &&& (3 : Int32)), iv (p2 &&& (2147483647 : Int32)), iv cp, iv 1, iv at', rv b1] [(.int (p4 >>> ((24 : Int32) &&& 0x3f).toInt64).toInt32), (.int 3), (.ref b1)]))
    refine Goes.on (fun t k => XS.i2b X10.here hx rfl (hb hby at_150) rfl k) ?_
    show Goes p e below QQ (T10.setTop (mkF m 151 #[iv p1, iv p2, iv p3, .val (.long p4), .second, iv (p1 &&& (3 : Int32)), iv (p2 &&& (2147483647 : Int32)), iv cp, iv 1, iv at', rv b1] [(.int (p4 >>> ((24 : Int32) &&& 0x3f).toInt64).toInt32.toInt8.toInt32), (.int 3), (.ref b1)]))
    obtain ⟨cl12, Ar12, aq12, aS12, aN12, aH12, aG12⟩ := id V_11
    have hin12 := inb_of (j := (3 : Int32)) aS12 ⟨by decide, by decide⟩
    obtain ⟨T13, h13, X13, e13, W13, st13⟩ := stB X10 hx hZ e10 Ar12 (j := (3 : Int32)) hin12 (g := (mkF m 151 #[iv p1, iv p2, iv p3, .val (.long p4), .second, iv (p1 &&& (3 : Int32)), iv (p2 &&& (2147483647 : Int32)), iv cp, iv 1, iv at', rv b1] [(.int (p4 >>> ((24 : Int32) &&& 0x3f).toInt64).toInt32.toInt8.toInt32), (.int 3), (.ref b1)])) rfl rfl (hb hby at_151)
    have K13 := K10.wr W13 (Or.inr sz_b1)
    have N13 := Fr.snoc X13 N10 g_b1
    have V_14 : Arv Z h13 b1 k1 .byte (8 : Int32) [(.int p4.toInt32.toInt8.toInt32.toInt8.toInt32), (.int (p4 >>> ((8 : Int32) &&& 0x3f).toInt64).toInt32.toInt8.toInt32.toInt8.toInt32), (.int (p4 >>> ((16 : Int32) &&& 0x3f).toInt64).toInt32.toInt8.toInt32.toInt8.toInt32), (.int (p4 >>> ((24 : Int32) &&& 0x3f).toInt64).toInt32.toInt8.toInt32.toInt8.toInt32), (.int 0), (.int 0), (.int 0), (.int 0)] (.int 0) := Arv.set Ar12 aq12 aS12 aN12 aH12 aG12 (fits_nar_byte _) W13 3 rfl (Nat.le_of_ble_eq_true rfl)
    refine Goes.on (fun t k => st13 t k) ?_
    show Goes p e below QQ (T13.setTop (mkF m 152 #[iv p1, iv p2, iv p3, .val (.long p4), .second, iv (p1 &&& (3 : Int32)), iv (p2 &&& (2147483647 : Int32)), iv cp, iv 1, iv at', rv b1] []))
    refine Goes.on (fun t k => XS.aload X13.here hx rfl (hb hby at_152) rfl rfl k) ?_
    show Goes p e below QQ (T13.setTop (mkF m 154 #[iv p1, iv p2, iv p3, .val (.long p4), .second, iv (p1 &&& (3 : Int32)), iv (p2 &&& (2147483647 : Int32)), iv cp, iv 1, iv at', rv b1] [(.ref b1)]))
    refine Goes.on (fun t k => XS.iconst X13.here hx rfl (hb hby at_154) k) ?_
    show Goes p e below QQ (T13.setTop (mkF m 155 #[iv p1, iv p2, iv p3, .val (.long p4), .second, iv (p1 &&& (3 : Int32)), iv (p2 &&& (2147483647 : Int32)), iv cp, iv 1, iv at', rv b1] [(.int 4), (.ref b1)]))
    refine Goes.on (fun t k => XS.lloadN X13.here hx rfl (hb hby at_155) rfl k) ?_
    show Goes p e below QQ (T13.setTop (mkF m 156 #[iv p1, iv p2, iv p3, .val (.long p4), .second, iv (p1 &&& (3 : Int32)), iv (p2 &&& (2147483647 : Int32)), iv cp, iv 1, iv at', rv b1] [(.long p4), (.int 4), (.ref b1)]))
    refine Goes.on (fun t k => XS.bipush X13.here hx rfl (hb hby at_156) k) ?_
    show Goes p e below QQ (T13.setTop (mkF m 158 #[iv p1, iv p2, iv p3, .val (.long p4), .second, iv (p1 &&& (3 : Int32)), iv (p2 &&& (2147483647 : Int32)), iv cp, iv 1, iv at', rv b1] [(.int 32), (.long p4), (.int 4), (.ref b1)]))
    refine Goes.on (fun t k => XS.lshr X13.here hx rfl (hb hby at_158) rfl k) ?_
    show Goes p e below QQ (T13.setTop (mkF m 159 #[iv p1, iv p2, iv p3, .val (.long p4), .second, iv (p1 &&& (3 : Int32)), iv (p2 &&& (2147483647 : Int32)), iv cp, iv 1, iv at', rv b1] [(.long (p4 >>> ((32 : Int32) &&& 0x3f).toInt64)), (.int 4), (.ref b1)]))
    refine Goes.on (fun t k => XS.l2i X13.here hx rfl (hb hby at_159) rfl k) ?_
    show Goes p e below QQ (T13.setTop (mkF m 160 #[iv p1, iv p2, iv p3, .val (.long p4), .second, iv (p1 &&& (3 : Int32)), iv (p2 &&& (2147483647 : Int32)), iv cp, iv 1, iv at', rv b1] [(.int (p4 >>> ((32 : Int32) &&& 0x3f).toInt64).toInt32), (.int 4), (.ref b1)]))
    refine Goes.on (fun t k => XS.i2b X13.here hx rfl (hb hby at_160) rfl k) ?_
    show Goes p e below QQ (T13.setTop (mkF m 161 #[iv p1, iv p2, iv p3, .val (.long p4), .second, iv (p1 &&& (3 : Int32)), iv (p2 &&& (2147483647 : Int32)), iv cp, iv 1, iv at', rv b1] [(.int (p4 >>> ((32 : Int32) &&& 0x3f).toInt64).toInt32.toInt8.toInt32), (.int 4), (.ref b1)]))
    obtain ⟨cl15, Ar15, aq15, aS15, aN15, aH15, aG15⟩ := id V_14
    have hin15 := inb_of (j := (4 : Int32)) aS15 ⟨by decide, by decide⟩
    obtain ⟨T16, h16, X16, e16, W16, st16⟩ := stB X13 hx hZ e13 Ar15 (j := (4 : Int32)) hin15 (g := (mkF m 161 #[iv p1, iv p2, iv p3, .val (.long p4), .second, iv (p1 &&& (3 : Int32)), iv (p2 &&& (2147483647 : Int32)), iv cp, iv 1, iv at', rv b1] [(.int (p4 >>> ((32 : Int32) &&& 0x3f).toInt64).toInt32.toInt8.toInt32), (.int 4), (.ref b1)])) rfl rfl (hb hby at_161)
    have K16 := K13.wr W16 (Or.inr sz_b1)
    have N16 := Fr.snoc X16 N13 g_b1
    have V_17 : Arv Z h16 b1 k1 .byte (8 : Int32) [(.int p4.toInt32.toInt8.toInt32.toInt8.toInt32), (.int (p4 >>> ((8 : Int32) &&& 0x3f).toInt64).toInt32.toInt8.toInt32.toInt8.toInt32), (.int (p4 >>> ((16 : Int32) &&& 0x3f).toInt64).toInt32.toInt8.toInt32.toInt8.toInt32), (.int (p4 >>> ((24 : Int32) &&& 0x3f).toInt64).toInt32.toInt8.toInt32.toInt8.toInt32), (.int (p4 >>> ((32 : Int32) &&& 0x3f).toInt64).toInt32.toInt8.toInt32.toInt8.toInt32), (.int 0), (.int 0), (.int 0)] (.int 0) := Arv.set Ar15 aq15 aS15 aN15 aH15 aG15 (fits_nar_byte _) W16 4 rfl (Nat.le_of_ble_eq_true rfl)
    refine Goes.on (fun t k => st16 t k) ?_
    show Goes p e below QQ (T16.setTop (mkF m 162 #[iv p1, iv p2, iv p3, .val (.long p4), .second, iv (p1 &&& (3 : Int32)), iv (p2 &&& (2147483647 : Int32)), iv cp, iv 1, iv at', rv b1] []))
    refine Goes.on (fun t k => XS.aload X16.here hx rfl (hb hby at_162) rfl rfl k) ?_
    show Goes p e below QQ (T16.setTop (mkF m 164 #[iv p1, iv p2, iv p3, .val (.long p4), .second, iv (p1 &&& (3 : Int32)), iv (p2 &&& (2147483647 : Int32)), iv cp, iv 1, iv at', rv b1] [(.ref b1)]))
    refine Goes.on (fun t k => XS.iconst X16.here hx rfl (hb hby at_164) k) ?_
    show Goes p e below QQ (T16.setTop (mkF m 165 #[iv p1, iv p2, iv p3, .val (.long p4), .second, iv (p1 &&& (3 : Int32)), iv (p2 &&& (2147483647 : Int32)), iv cp, iv 1, iv at', rv b1] [(.int 5), (.ref b1)]))
    refine Goes.on (fun t k => XS.lloadN X16.here hx rfl (hb hby at_165) rfl k) ?_
    show Goes p e below QQ (T16.setTop (mkF m 166 #[iv p1, iv p2, iv p3, .val (.long p4), .second, iv (p1 &&& (3 : Int32)), iv (p2 &&& (2147483647 : Int32)), iv cp, iv 1, iv at', rv b1] [(.long p4), (.int 5), (.ref b1)]))
    refine Goes.on (fun t k => XS.bipush X16.here hx rfl (hb hby at_166) k) ?_
    show Goes p e below QQ (T16.setTop (mkF m 168 #[iv p1, iv p2, iv p3, .val (.long p4), .second, iv (p1 &&& (3 : Int32)), iv (p2 &&& (2147483647 : Int32)), iv cp, iv 1, iv at', rv b1] [(.int 40), (.long p4), (.int 5), (.ref b1)]))
    refine Goes.on (fun t k => XS.lshr X16.here hx rfl (hb hby at_168) rfl k) ?_
    show Goes p e below QQ (T16.setTop (mkF m 169 #[iv p1, iv p2, iv p3, .val (.long p4), .second, iv (p1 &&& (3 : Int32)), iv (p2 &&& (2147483647 : Int32)), iv cp, iv 1, iv at', rv b1] [(.long (p4 >>> ((40 : Int32) &&& 0x3f).toInt64)), (.int 5), (.ref b1)]))
    refine Goes.on (fun t k => XS.l2i X16.here hx rfl (hb hby at_169) rfl k) ?_
    show Goes p e below QQ (T16.setTop (mkF m 170 #[iv p1, iv p2, iv p3, .val (.long p4), .second, iv (p1 &&& (3 : Int32)), iv (p2 &&& (2147483647 : Int32)), iv cp, iv 1, iv at', rv b1] [(.int (p4 >>> ((40 : Int32) &&& 0x3f).toInt64).toInt32), (.int 5), (.ref b1)]))
    refine Goes.on (fun t k => XS.i2b X16.here hx rfl (hb hby at_170) rfl k) ?_
    show Goes p e below QQ (T16.setTop (mkF m 171 #[iv p1, iv p2, iv p3, .val (.long p4), .second, iv (p1 &&& (3 : Int32)), iv (p2 &&& (2147483647 : Int32)), iv cp, iv 1, iv at', rv b1] [(.int (p4 >>> ((40 : Int32) &&& 0x3f).toInt64).toInt32.toInt8.toInt32), (.int 5), (.ref b1)]))
    obtain ⟨cl18, Ar18, aq18, aS18, aN18, aH18, aG18⟩ := id V_17
    have hin18 := inb_of (j := (5 : Int32)) aS18 ⟨by decide, by decide⟩
    obtain ⟨T19, h19, X19, e19, W19, st19⟩ := stB X16 hx hZ e16 Ar18 (j := (5 : Int32)) hin18 (g := (mkF m 171 #[iv p1, iv p2, iv p3, .val (.long p4), .second, iv (p1 &&& (3 : Int32)), iv (p2 &&& (2147483647 : Int32)), iv cp, iv 1, iv at', rv b1] [(.int (p4 >>> ((40 : Int32) &&& 0x3f).toInt64).toInt32.toInt8.toInt32), (.int 5), (.ref b1)])) rfl rfl (hb hby at_171)
    have K19 := K16.wr W19 (Or.inr sz_b1)
    have N19 := Fr.snoc X19 N16 g_b1
    have V_20 : Arv Z h19 b1 k1 .byte (8 : Int32) [(.int p4.toInt32.toInt8.toInt32.toInt8.toInt32), (.int (p4 >>> ((8 : Int32) &&& 0x3f).toInt64).toInt32.toInt8.toInt32.toInt8.toInt32), (.int (p4 >>> ((16 : Int32) &&& 0x3f).toInt64).toInt32.toInt8.toInt32.toInt8.toInt32), (.int (p4 >>> ((24 : Int32) &&& 0x3f).toInt64).toInt32.toInt8.toInt32.toInt8.toInt32), (.int (p4 >>> ((32 : Int32) &&& 0x3f).toInt64).toInt32.toInt8.toInt32.toInt8.toInt32), (.int (p4 >>> ((40 : Int32) &&& 0x3f).toInt64).toInt32.toInt8.toInt32.toInt8.toInt32), (.int 0), (.int 0)] (.int 0) := Arv.set Ar18 aq18 aS18 aN18 aH18 aG18 (fits_nar_byte _) W19 5 rfl (Nat.le_of_ble_eq_true rfl)
    refine Goes.on (fun t k => st19 t k) ?_
    show Goes p e below QQ (T19.setTop (mkF m 172 #[iv p1, iv p2, iv p3, .val (.long p4), .second, iv (p1 &&& (3 : Int32)), iv (p2 &&& (2147483647 : Int32)), iv cp, iv 1, iv at', rv b1] []))
    refine Goes.on (fun t k => XS.aload X19.here hx rfl (hb hby at_172) rfl rfl k) ?_
    show Goes p e below QQ (T19.setTop (mkF m 174 #[iv p1, iv p2, iv p3, .val (.long p4), .second, iv (p1 &&& (3 : Int32)), iv (p2 &&& (2147483647 : Int32)), iv cp, iv 1, iv at', rv b1] [(.ref b1)]))
    refine Goes.on (fun t k => XS.bipush X19.here hx rfl (hb hby at_174) k) ?_
    show Goes p e below QQ (T19.setTop (mkF m 176 #[iv p1, iv p2, iv p3, .val (.long p4), .second, iv (p1 &&& (3 : Int32)), iv (p2 &&& (2147483647 : Int32)), iv cp, iv 1, iv at', rv b1] [(.int 6), (.ref b1)]))
    refine Goes.on (fun t k => XS.lloadN X19.here hx rfl (hb hby at_176) rfl k) ?_
    show Goes p e below QQ (T19.setTop (mkF m 177 #[iv p1, iv p2, iv p3, .val (.long p4), .second, iv (p1 &&& (3 : Int32)), iv (p2 &&& (2147483647 : Int32)), iv cp, iv 1, iv at', rv b1] [(.long p4), (.int 6), (.ref b1)]))
    refine Goes.on (fun t k => XS.bipush X19.here hx rfl (hb hby at_177) k) ?_
    show Goes p e below QQ (T19.setTop (mkF m 179 #[iv p1, iv p2, iv p3, .val (.long p4), .second, iv (p1 &&& (3 : Int32)), iv (p2 &&& (2147483647 : Int32)), iv cp, iv 1, iv at', rv b1] [(.int 48), (.long p4), (.int 6), (.ref b1)]))
    refine Goes.on (fun t k => XS.lshr X19.here hx rfl (hb hby at_179) rfl k) ?_
    show Goes p e below QQ (T19.setTop (mkF m 180 #[iv p1, iv p2, iv p3, .val (.long p4), .second, iv (p1 &&& (3 : Int32)), iv (p2 &&& (2147483647 : Int32)), iv cp, iv 1, iv at', rv b1] [(.long (p4 >>> ((48 : Int32) &&& 0x3f).toInt64)), (.int 6), (.ref b1)]))
    refine Goes.on (fun t k => XS.l2i X19.here hx rfl (hb hby at_180) rfl k) ?_
    show Goes p e below QQ (T19.setTop (mkF m 181 #[iv p1, iv p2, iv p3, .val (.long p4), .second, iv (p1 &&& (3 : Int32)), iv (p2 &&& (2147483647 : Int32)), iv cp, iv 1, iv at', rv b1] [(.int (p4 >>> ((48 : Int32) &&& 0x3f).toInt64).toInt32), (.int 6), (.ref b1)]))
    refine Goes.on (fun t k => XS.i2b X19.here hx rfl (hb hby at_181) rfl k) ?_
    show Goes p e below QQ (T19.setTop (mkF m 182 #[iv p1, iv p2, iv p3, .val (.long p4), .second, iv (p1 &&& (3 : Int32)), iv (p2 &&& (2147483647 : Int32)), iv cp, iv 1, iv at', rv b1] [(.int (p4 >>> ((48 : Int32) &&& 0x3f).toInt64).toInt32.toInt8.toInt32), (.int 6), (.ref b1)]))
    obtain ⟨cl21, Ar21, aq21, aS21, aN21, aH21, aG21⟩ := id V_20
    have hin21 := inb_of (j := (6 : Int32)) aS21 ⟨by decide, by decide⟩
    obtain ⟨T22, h22, X22, e22, W22, st22⟩ := stB X19 hx hZ e19 Ar21 (j := (6 : Int32)) hin21 (g := (mkF m 182 #[iv p1, iv p2, iv p3, .val (.long p4), .second, iv (p1 &&& (3 : Int32)), iv (p2 &&& (2147483647 : Int32)), iv cp, iv 1, iv at', rv b1] [(.int (p4 >>> ((48 : Int32) &&& 0x3f).toInt64).toInt32.toInt8.toInt32), (.int 6), (.ref b1)])) rfl rfl (hb hby at_182)
    have K22 := K19.wr W22 (Or.inr sz_b1)
    have N22 := Fr.snoc X22 N19 g_b1
    have V_23 : Arv Z h22 b1 k1 .byte (8 : Int32) [(.int p4.toInt32.toInt8.toInt32.toInt8.toInt32), (.int (p4 >>> ((8 : Int32) &&& 0x3f).toInt64).toInt32.toInt8.toInt32.toInt8.toInt32), (.int (p4 >>> ((16 : Int32) &&& 0x3f).toInt64).toInt32.toInt8.toInt32.toInt8.toInt32), (.int (p4 >>> ((24 : Int32) &&& 0x3f).toInt64).toInt32.toInt8.toInt32.toInt8.toInt32), (.int (p4 >>> ((32 : Int32) &&& 0x3f).toInt64).toInt32.toInt8.toInt32.toInt8.toInt32), (.int (p4 >>> ((40 : Int32) &&& 0x3f).toInt64).toInt32.toInt8.toInt32.toInt8.toInt32), (.int (p4 >>> ((48 : Int32) &&& 0x3f).toInt64).toInt32.toInt8.toInt32.toInt8.toInt32), (.int 0)] (.int 0) := Arv.set Ar21 aq21 aS21 aN21 aH21 aG21 (fits_nar_byte _) W22 6 rfl (Nat.le_of_ble_eq_true rfl)
    refine Goes.on (fun t k => st22 t k) ?_
    show Goes p e below QQ (T22.setTop (mkF m 183 #[iv p1, iv p2, iv p3, .val (.long p4), .second, iv (p1 &&& (3 : Int32)), iv (p2 &&& (2147483647 : Int32)), iv cp, iv 1, iv at', rv b1] []))
    refine Goes.on (fun t k => XS.aload X22.here hx rfl (hb hby at_183) rfl rfl k) ?_
    show Goes p e below QQ (T22.setTop (mkF m 185 #[iv p1, iv p2, iv p3, .val (.long p4), .second, iv (p1 &&& (3 : Int32)), iv (p2 &&& (2147483647 : Int32)), iv cp, iv 1, iv at', rv b1] [(.ref b1)]))
    refine Goes.on (fun t k => XS.bipush X22.here hx rfl (hb hby at_185) k) ?_
    show Goes p e below QQ (T22.setTop (mkF m 187 #[iv p1, iv p2, iv p3, .val (.long p4), .second, iv (p1 &&& (3 : Int32)), iv (p2 &&& (2147483647 : Int32)), iv cp, iv 1, iv at', rv b1] [(.int 7), (.ref b1)]))
    refine Goes.on (fun t k => XS.lloadN X22.here hx rfl (hb hby at_187) rfl k) ?_
    show Goes p e below QQ (T22.setTop (mkF m 188 #[iv p1, iv p2, iv p3, .val (.long p4), .second, iv (p1 &&& (3 : Int32)), iv (p2 &&& (2147483647 : Int32)), iv cp, iv 1, iv at', rv b1] [(.long p4), (.int 7), (.ref b1)]))
    refine Goes.on (fun t k => XS.bipush X22.here hx rfl (hb hby at_188) k) ?_
    show Goes p e below QQ (T22.setTop (mkF m 190 #[iv p1, iv p2, iv p3, .val (.long p4), .second, iv (p1 &&& (3 : Int32)), iv (p2 &&& (2147483647 : Int32)), iv cp, iv 1, iv at', rv b1] [(.int 56), (.long p4), (.int 7), (.ref b1)]))
    refine Goes.on (fun t k => XS.lshr X22.here hx rfl (hb hby at_190) rfl k) ?_
    show Goes p e below QQ (T22.setTop (mkF m 191 #[iv p1, iv p2, iv p3, .val (.long p4), .second, iv (p1 &&& (3 : Int32)), iv (p2 &&& (2147483647 : Int32)), iv cp, iv 1, iv at', rv b1] [(.long (p4 >>> ((56 : Int32) &&& 0x3f).toInt64)), (.int 7), (.ref b1)]))
    refine Goes.on (fun t k => XS.l2i X22.here hx rfl (hb hby at_191) rfl k) ?_
    show Goes p e below QQ (T22.setTop (mkF m 192 #[iv p1, iv p2, iv p3, .val (.long p4), .second, iv (p1 &&& (3 : Int32)), iv (p2 &&& (2147483647 : Int32)), iv cp, iv 1, iv at', rv b1] [(.int (p4 >>> ((56 : Int32) &&& 0x3f).toInt64).toInt32), (.int 7), (.ref b1)]))
    refine Goes.on (fun t k => XS.i2b X22.here hx rfl (hb hby at_192) rfl k) ?_
    show Goes p e below QQ (T22.setTop (mkF m 193 #[iv p1, iv p2, iv p3, .val (.long p4), .second, iv (p1 &&& (3 : Int32)), iv (p2 &&& (2147483647 : Int32)), iv cp, iv 1, iv at', rv b1] [(.int (p4 >>> ((56 : Int32) &&& 0x3f).toInt64).toInt32.toInt8.toInt32), (.int 7), (.ref b1)]))
    obtain ⟨cl24, Ar24, aq24, aS24, aN24, aH24, aG24⟩ := id V_23
    have hin24 := inb_of (j := (7 : Int32)) aS24 ⟨by decide, by decide⟩
    obtain ⟨T25, h25, X25, e25, W25, st25⟩ := stB X22 hx hZ e22 Ar24 (j := (7 : Int32)) hin24 (g := (mkF m 193 #[iv p1, iv p2, iv p3, .val (.long p4), .second, iv (p1 &&& (3 : Int32)), iv (p2 &&& (2147483647 : Int32)), iv cp, iv 1, iv at', rv b1] [(.int (p4 >>> ((56 : Int32) &&& 0x3f).toInt64).toInt32.toInt8.toInt32), (.int 7), (.ref b1)])) rfl rfl (hb hby at_193)
    have K25 := K22.wr W25 (Or.inr sz_b1)
    have N25 := Fr.snoc X25 N22 g_b1
    have V_26 : Arv Z h25 b1 k1 .byte (8 : Int32) [(.int p4.toInt32.toInt8.toInt32.toInt8.toInt32), (.int (p4 >>> ((8 : Int32) &&& 0x3f).toInt64).toInt32.toInt8.toInt32.toInt8.toInt32), (.int (p4 >>> ((16 : Int32) &&& 0x3f).toInt64).toInt32.toInt8.toInt32.toInt8.toInt32), (.int (p4 >>> ((24 : Int32) &&& 0x3f).toInt64).toInt32.toInt8.toInt32.toInt8.toInt32), (.int (p4 >>> ((32 : Int32) &&& 0x3f).toInt64).toInt32.toInt8.toInt32.toInt8.toInt32), (.int (p4 >>> ((40 : Int32) &&& 0x3f).toInt64).toInt32.toInt8.toInt32.toInt8.toInt32), (.int (p4 >>> ((48 : Int32) &&& 0x3f).toInt64).toInt32.toInt8.toInt32.toInt8.toInt32), (.int (p4 >>> ((56 : Int32) &&& 0x3f).toInt64).toInt32.toInt8.toInt32.toInt8.toInt32)] (.int 0) := Arv.set Ar24 aq24 aS24 aN24 aH24 aG24 (fits_nar_byte _) W25 7 rfl (Nat.le_of_ble_eq_true rfl)
    refine Goes.on (fun t k => st25 t k) ?_
    show Goes p e below QQ (T25.setTop (mkF m 194 #[iv p1, iv p2, iv p3, .val (.long p4), .second, iv (p1 &&& (3 : Int32)), iv (p2 &&& (2147483647 : Int32)), iv cp, iv 1, iv at', rv b1] []))
    obtain ⟨vs0, hvs0⟩ : ∃ z : List Value, z = [(.int p4.toInt32.toInt8.toInt32.toInt8.toInt32), (.int (p4 >>> ((8 : Int32) &&& 0x3f).toInt64).toInt32.toInt8.toInt32.toInt8.toInt32), (.int (p4 >>> ((16 : Int32) &&& 0x3f).toInt64).toInt32.toInt8.toInt32.toInt8.toInt32), (.int (p4 >>> ((24 : Int32) &&& 0x3f).toInt64).toInt32.toInt8.toInt32.toInt8.toInt32), (.int (p4 >>> ((32 : Int32) &&& 0x3f).toInt64).toInt32.toInt8.toInt32.toInt8.toInt32), (.int (p4 >>> ((40 : Int32) &&& 0x3f).toInt64).toInt32.toInt8.toInt32.toInt8.toInt32), (.int (p4 >>> ((48 : Int32) &&& 0x3f).toInt64).toInt32.toInt8.toInt32.toInt8.toInt32), (.int (p4 >>> ((56 : Int32) &&& 0x3f).toInt64).toInt32.toInt8.toInt32.toInt8.toInt32)] := ⟨_, rfl⟩
    have V_27 := V_26
    rw [← hvs0] at V_27
    show Goes p e below QQ (T25.setTop (mkF m 194 #[iv p1, iv p2, iv p3, .val (.long p4), .second, iv (p1 &&& (3 : Int32)), iv (p2 &&& (2147483647 : Int32)), iv cp, iv 1, iv at', rv b1] []))
    refine Goes.on (fun t k => XS.iload X25.here hx rfl (hb hby at_194) rfl k) ?_
    show Goes p e below QQ (T25.setTop (mkF m 196 #[iv p1, iv p2, iv p3, .val (.long p4), .second, iv (p1 &&& (3 : Int32)), iv (p2 &&& (2147483647 : Int32)), iv cp, iv 1, iv at', rv b1] [(.int 1)]))
    refine Goes.on (fun t k => XS.iconst X25.here hx rfl (hb hby at_196) k) ?_
    show Goes p e below QQ (T25.setTop (mkF m 197 #[iv p1, iv p2, iv p3, .val (.long p4), .second, iv (p1 &&& (3 : Int32)), iv (p2 &&& (2147483647 : Int32)), iv cp, iv 1, iv at', rv b1] [(.int 1), (.int 1)]))
    refine Goes.on (fun t k => XS.icmpNo X25.here hx rfl (hb hby at_197) rfl (teq (by decide)).2 k) ?_
    show Goes p e below QQ (T25.setTop (mkF m 200 #[iv p1, iv p2, iv p3, .val (.long p4), .second, iv (p1 &&& (3 : Int32)), iv (p2 &&& (2147483647 : Int32)), iv cp, iv 1, iv at', rv b1] []))
    refine Goes.on (fun t k => XS.aload X25.here hx rfl (hb hby at_200) rfl rfl k) ?_
    show Goes p e below QQ (T25.setTop (mkF m 202 #[iv p1, iv p2, iv p3, .val (.long p4), .second, iv (p1 &&& (3 : Int32)), iv (p2 &&& (2147483647 : Int32)), iv cp, iv 1, iv at', rv b1] [(.ref b1)]))
    refine Goes.on (fun t k => XS.iload X25.here hx rfl (hb hby at_202) rfl k) ?_
    show Goes p e below QQ (T25.setTop (mkF m 204 #[iv p1, iv p2, iv p3, .val (.long p4), .second, iv (p1 &&& (3 : Int32)), iv (p2 &&& (2147483647 : Int32)), iv cp, iv 1, iv at', rv b1] [(.int at'), (.ref b1)]))
    refine Goes.on (fun t k => XS.iload X25.here hx rfl (hb hby at_204) rfl k) ?_
    show Goes p e below QQ (T25.setTop (mkF m 206 #[iv p1, iv p2, iv p3, .val (.long p4), .second, iv (p1 &&& (3 : Int32)), iv (p2 &&& (2147483647 : Int32)), iv cp, iv 1, iv at', rv b1] [(.int cp), (.int at'), (.ref b1)]))
    refine Goes.on (fun t k => XS.i2b X25.here hx rfl (hb hby at_206) rfl k) ?_
    show Goes p e below QQ (T25.setTop (mkF m 207 #[iv p1, iv p2, iv p3, .val (.long p4), .second, iv (p1 &&& (3 : Int32)), iv (p2 &&& (2147483647 : Int32)), iv cp, iv 1, iv at', rv b1] [(.int cp.toInt8.toInt32), (.int at'), (.ref b1)]))
    obtain ⟨cl28, Ar28, aq28, aS28, aN28, aH28, aG28⟩ := id V_27
    have hin28 := inb_of (j := at') aS28 (by rcases hv4 with rfl | rfl | rfl | rfl <;> exact ⟨by decide, by decide⟩)
    obtain ⟨T29, h29, X29, e29, W29, st29⟩ := stB X25 hx hZ e25 Ar28 (j := at') hin28 (g := (mkF m 207 #[iv p1, iv p2, iv p3, .val (.long p4), .second, iv (p1 &&& (3 : Int32)), iv (p2 &&& (2147483647 : Int32)), iv cp, iv 1, iv at', rv b1] [(.int cp.toInt8.toInt32), (.int at'), (.ref b1)])) rfl rfl (hb hby at_207)
    have K29 := K25.wr W29 (Or.inr sz_b1)
    have N29 := Fr.snoc X29 N25 g_b1
    have V_30 : Arv Z h29 b1 k1 .byte (8 : Int32) (vs0.set (at').toNatClampNeg (.int cp.toInt8.toInt32.toInt8.toInt32)) (.int 0) := Arv.set Ar28 aq28 aS28 aN28 aH28 aG28 (fits_nar_byte _) W29 (at').toNatClampNeg rfl (by (try simp only [List.length_set]); exact (by subst hvs0; rcases hv4 with rfl | rfl | rfl | rfl <;> exact Nat.le_of_ble_eq_true rfl))
    refine Goes.on (fun t k => st29 t k) ?_
    show Goes p e below QQ (T29.setTop (mkF m 208 #[iv p1, iv p2, iv p3, .val (.long p4), .second, iv (p1 &&& (3 : Int32)), iv (p2 &&& (2147483647 : Int32)), iv cp, iv 1, iv at', rv b1] []))
    refine Goes.on (fun t k => XS.goto X29.here hx rfl (pc0 := 208) (pc' := 385) rfl (hb hby at_208) (by decide) (by decide) k) ?_
    show Goes p e below QQ (T29.setTop (mkF m 385 #[iv p1, iv p2, iv p3, .val (.long p4), .second, iv (p1 &&& (3 : Int32)), iv (p2 &&& (2147483647 : Int32)), iv cp, iv 1, iv at', rv b1] []))
    refine Goes.on (fun t k => XS.aload X29.here hx rfl (hb hby at_385) rfl rfl k) ?_
    show Goes p e below QQ (T29.setTop (mkF m 387 #[iv p1, iv p2, iv p3, .val (.long p4), .second, iv (p1 &&& (3 : Int32)), iv (p2 &&& (2147483647 : Int32)), iv cp, iv 1, iv at', rv b1] [(.ref b1)]))
    refine Goes.on (fun t k => XS.iload X29.here hx rfl (hb hby at_387) rfl k) ?_
    show Goes p e below QQ (T29.setTop (mkF m 389 #[iv p1, iv p2, iv p3, .val (.long p4), .second, iv (p1 &&& (3 : Int32)), iv (p2 &&& (2147483647 : Int32)), iv cp, iv 1, iv at', rv b1] [(.int at'), (.ref b1)]))
    obtain ⟨_, _, ⟨T31, L31, k31, n31⟩, -, X31, ⟨Lc31, hQ31, l31, y31, z31⟩, st31⟩ := Jvm.LawKit.callS X29 hx (y := (⟨"com/example/sober_links/soberlinks/io/Utf8", "codePointAt", "([BI)I"⟩ : MethodName)) hown (mvT hZ (hw _ (List.mem_of_getElem? (i := 2) rfl))) (mvT hZ (hw _ (List.mem_of_getElem? (i := 3) rfl))) (mvT hZ (hw _ (List.mem_of_getElem? (i := 4) rfl))) (mvT hZ (hw _ (List.mem_of_getElem? (i := 5) rfl))) (by decide) (backOf (W := 0) (rm1_1 l Z a0 hw [] b1 at' k1 (8 : Int32) (vs0.set (at').toNatClampNeg (.int cp.toInt8.toInt32.toInt8.toInt32)) (cp.toInt8.toInt32.toInt8.toInt32) h29 n0 (Nat.le_trans Z0 K29.1) V_30 (by rcases hv4 with rfl | rfl | rfl | rfl <;> exact ⟨by decide, by decide⟩) (by subst hvs0; rcases hv4 with rfl | rfl | rfl | rfl <;> rfl) (own_lead1_0 cp hcp)) hZ (hw _ (List.mem_of_getElem? (i := 5) rfl)) (hw _ (List.mem_of_getElem? (i := 4) rfl)) (by decide) (by decide)) (g := (mkF m 389 #[iv p1, iv p2, iv p3, .val (.long p4), .second, iv (p1 &&& (3 : Int32)), iv (p2 &&& (2147483647 : Int32)), iv cp, iv 1, iv at', rv b1] [(.int at'), (.ref b1)])) rfl (by rw [hml]; rfl) (argsL := [(.ref b1), (.int at')]) (rest := []) (lenOf pd_0 rfl) rfl (by show 2 * 0 + _ ≤ _; exact Nat.le_of_eq rfl) (hb hby at_389) (fun _ _ => ⟨rfl, e29, (by decide : 1 + 0 ≤ _), (by decide : 8 + 0 ≤ _)⟩)
    dsimp only [Pt.U, Pt.locs, Pt.cells, Pt.slots] at X31 l31 y31 z31 st31 hQ31
    subst l31 y31 z31
    obtain ⟨rfl, M31, e31⟩ := hQ31
    have N31 := Fr.app N29 M31
    refine Goes.on (fun t k => st31 _ k) ?_
    show Goes p e below QQ (T31.setTop (mkF m 392 #[iv p1, iv p2, iv p3, .val (.long p4), .second, iv (p1 &&& (3 : Int32)), iv (p2 &&& (2147483647 : Int32)), iv cp, iv 1, iv at', rv b1] [(.int (cp.toInt8.toInt32.toInt8.toInt32 &&& (255 : Int32)))]))
    refine Goes.on (fun t k => XS.iload X31.here hx rfl (hb hby at_392) rfl k) ?_
    show Goes p e below QQ (T31.setTop (mkF m 394 #[iv p1, iv p2, iv p3, .val (.long p4), .second, iv (p1 &&& (3 : Int32)), iv (p2 &&& (2147483647 : Int32)), iv cp, iv 1, iv at', rv b1] [(.int cp), (.int (cp.toInt8.toInt32.toInt8.toInt32 &&& (255 : Int32)))]))
    refine Goes.on (fun t k => XS.icmpNo X31.here hx rfl (hb hby at_394) rfl (teq (own_dec1 cp hcp)).2 k) ?_
    show Goes p e below QQ (T31.setTop (mkF m 397 #[iv p1, iv p2, iv p3, .val (.long p4), .second, iv (p1 &&& (3 : Int32)), iv (p2 &&& (2147483647 : Int32)), iv cp, iv 1, iv at', rv b1] []))
    refine Goes.on (fun t k => XS.iconst X31.here hx rfl (hb hby at_397) k) ?_
    show Goes p e below QQ (T31.setTop (mkF m 398 #[iv p1, iv p2, iv p3, .val (.long p4), .second, iv (p1 &&& (3 : Int32)), iv (p2 &&& (2147483647 : Int32)), iv cp, iv 1, iv at', rv b1] [(.int 1)]))
    refine Goes.on (fun t k => XS.goto X31.here hx rfl (pc0 := 398) (pc' := 402) rfl (hb hby at_398) (by decide) (by decide) k) ?_
    show Goes p e below QQ (T31.setTop (mkF m 402 #[iv p1, iv p2, iv p3, .val (.long p4), .second, iv (p1 &&& (3 : Int32)), iv (p2 &&& (2147483647 : Int32)), iv cp, iv 1, iv at', rv b1] [(.int 1)]))
    exact Goes.rN X31 hx (t := .boolean) hret (by simp) hlk (hb hby at_402) hQQ ⟨rfl, N31⟩ (by decide) (by decide)
  have J2 : ∀ cp : Int32, 128 ≤ cp.toInt ∧ cp.toInt < 2048 → Goes p e below QQ (s₁.setTop (mkF m 104 #[iv p1, iv p2, iv p3, .val (.long p4), .second, iv (p1 &&& (3 : Int32)), iv (p2 &&& (2147483647 : Int32)), iv cp, iv 2, .unset, .unset] [])) := by
    intro cp hcp
    show Goes p e below QQ (s₁.setTop (mkF m 104 #[iv p1, iv p2, iv p3, .val (.long p4), .second, iv (p1 &&& (3 : Int32)), iv (p2 &&& (2147483647 : Int32)), iv cp, iv 2, .unset, .unset] []))
    refine Goes.on (fun t k => XS.iloadN X0.here hx rfl (hb hby at_104) rfl k) ?_
    show Goes p e below QQ (s₁.setTop (mkF m 105 #[iv p1, iv p2, iv p3, .val (.long p4), .second, iv (p1 &&& (3 : Int32)), iv (p2 &&& (2147483647 : Int32)), iv cp, iv 2, .unset, .unset] [(.int p3)]))
    refine Goes.on (fun t k => XS.iconst X0.here hx rfl (hb hby at_105) k) ?_
    show Goes p e below QQ (s₁.setTop (mkF m 106 #[iv p1, iv p2, iv p3, .val (.long p4), .second, iv (p1 &&& (3 : Int32)), iv (p2 &&& (2147483647 : Int32)), iv cp, iv 2, .unset, .unset] [(.int 3), (.int p3)]))
    refine Goes.on (fun t k => XS.iand X0.here hx rfl (hb hby at_106) rfl k) ?_
    show Goes p e below QQ (s₁.setTop (mkF m 107 #[iv p1, iv p2, iv p3, .val (.long p4), .second, iv (p1 &&& (3 : Int32)), iv (p2 &&& (2147483647 : Int32)), iv cp, iv 2, .unset, .unset] [(.int (p3 &&& (3 : Int32)))]))
    refine Goes.on (fun t k => XS.istore X0.here hx rfl (hb hby at_107) rfl (l' := #[iv p1, iv p2, iv p3, .val (.long p4), .second, iv (p1 &&& (3 : Int32)), iv (p2 &&& (2147483647 : Int32)), iv cp, iv 2, iv (p3 &&& (3 : Int32)), .unset]) rfl k) ?_
    show Goes p e below QQ (s₁.setTop (mkF m 109 #[iv p1, iv p2, iv p3, .val (.long p4), .second, iv (p1 &&& (3 : Int32)), iv (p2 &&& (2147483647 : Int32)), iv cp, iv 2, iv (p3 &&& (3 : Int32)), .unset] []))
    generalize (p3 &&& (3 : Int32)) = at' at *
    show Goes p e below QQ (s₁.setTop (mkF m 109 #[iv p1, iv p2, iv p3, .val (.long p4), .second, iv (p1 &&& (3 : Int32)), iv (p2 &&& (2147483647 : Int32)), iv cp, iv 2, iv at', .unset] []))
    refine Goes.on (fun t k => XS.bipush X0.here hx rfl (hb hby at_109) k) ?_
    show Goes p e below QQ (s₁.setTop (mkF m 111 #[iv p1, iv p2, iv p3, .val (.long p4), .second, iv (p1 &&& (3 : Int32)), iv (p2 &&& (2147483647 : Int32)), iv cp, iv 2, iv at', .unset] [(.int 8)]))
    obtain ⟨T32, h32, k32, X32, e32, E32, A32, st32⟩ := newP X0 hx hZ (hw _ (List.mem_of_getElem? (i := 1) rfl)) e0 (g := (mkF m 111 #[iv p1, iv p2, iv p3, .val (.long p4), .second, iv (p1 &&& (3 : Int32)), iv (p2 &&& (2147483647 : Int32)), iv cp, iv 2, iv at', .unset] [(.int 8)])) rfl (hb hby at_111) rfl (by decide) (cap := 8) (by decide) (by decide) (by decide) (by decide)
    obtain ⟨b32, g32⟩ : ∃ z, z = h0.size := ⟨_, rfl⟩
    rw [← g32] at A32 st32
    have sz_b32 : h0.size ≤ b32 := Nat.le_trans K0.1 (Nat.le_of_eq g32.symm)
    have g_b32 : n0 ≤ b32 := Nat.le_trans Z0 sz_b32
    have K32 := K0.ext E32
    have V_33 : Arv Z h32 b32 k32 .byte (8 : Int32) [(.int 0), (.int 0), (.int 0), (.int 0), (.int 0), (.int 0), (.int 0), (.int 0)] (.int 0) := (Arv.new A32 (by decide)).pad (pad_rep [] (.int 0) 8)
    refine Goes.on (fun t k => st32 t k) ?_
    show Goes p e below QQ (T32.setTop (mkF m 113 #[iv p1, iv p2, iv p3, .val (.long p4), .second, iv (p1 &&& (3 : Int32)), iv (p2 &&& (2147483647 : Int32)), iv cp, iv 2, iv at', .unset] [(.ref b32)]))
    refine Goes.on (fun t k => XS.astore X32.here hx rfl (hb hby at_113) rfl rfl (l' := #[iv p1, iv p2, iv p3, .val (.long p4), .second, iv (p1 &&& (3 : Int32)), iv (p2 &&& (2147483647 : Int32)), iv cp, iv 2, iv at', rv b32]) rfl k) ?_
    show Goes p e below QQ (T32.setTop (mkF m 115 #[iv p1, iv p2, iv p3, .val (.long p4), .second, iv (p1 &&& (3 : Int32)), iv (p2 &&& (2147483647 : Int32)), iv cp, iv 2, iv at', rv b32] []))
    refine Goes.on (fun t k => XS.aload X32.here hx rfl (hb hby at_115) rfl rfl k) ?_
    show Goes p e below QQ (T32.setTop (mkF m 117 #[iv p1, iv p2, iv p3, .val (.long p4), .second, iv (p1 &&& (3 : Int32)), iv (p2 &&& (2147483647 : Int32)), iv cp, iv 2, iv at', rv b32] [(.ref b32)]))
    refine Goes.on (fun t k => XS.iconst X32.here hx rfl (hb hby at_117) k) ?_
    show Goes p e below QQ (T32.setTop (mkF m 118 #[iv p1, iv p2, iv p3, .val (.long p4), .second, iv (p1 &&& (3 : Int32)), iv (p2 &&& (2147483647 : Int32)), iv cp, iv 2, iv at', rv b32] [(.int 0), (.ref b32)]))
    refine Goes.on (fun t k => XS.lloadN X32.here hx rfl (hb hby at_118) rfl k) ?_
    show Goes p e below QQ (T32.setTop (mkF m 119 #[iv p1, iv p2, iv p3, .val (.long p4), .second, iv (p1 &&& (3 : Int32)), iv (p2 &&& (2147483647 : Int32)), iv cp, iv 2, iv at', rv b32] [(.long p4), (.int 0), (.ref b32)]))
    refine Goes.on (fun t k => XS.l2i X32.here hx rfl (hb hby at_119) rfl k) ?_
    show Goes p e below QQ (T32.setTop (mkF m 120 #[iv p1, iv p2, iv p3, .val (.long p4), .second, iv (p1 &&& (3 : Int32)), iv (p2 &&& (2147483647 : Int32)), iv cp, iv 2, iv at', rv b32] [(.int p4.toInt32), (.int 0), (.ref b32)]))
    refine Goes.on (fun t k => XS.i2b X32.here hx rfl (hb hby at_120) rfl k) ?_
    show Goes p e below QQ (T32.setTop (mkF m 121 #[iv p1, iv p2, iv p3, .val (.long p4), .second, iv (p1 &&& (3 : Int32)), iv (p2 &&& (2147483647 : Int32)), iv cp, iv 2, iv at', rv b32] [(.int p4.toInt32.toInt8.toInt32), (.int 0), (.ref b32)]))
    obtain ⟨cl34, Ar34, aq34, aS34, aN34, aH34, aG34⟩ := id V_33
    have hin34 := inb_of (j := (0 : Int32)) aS34 ⟨by decide, by decide⟩
    obtain ⟨T35, h35, X35, e35, W35, st35⟩ := stB X32 hx hZ e32 Ar34 (j := (0 : Int32)) hin34 (g := (mkF m 121 #[iv p1, iv p2, iv p3, .val (.long p4), .second, iv (p1 &&& (3 : Int32)), iv (p2 &&& (2147483647 : Int32)), iv cp, iv 2, iv at', rv b32] [(.int p4.toInt32.toInt8.toInt32), (.int 0), (.ref b32)])) rfl rfl (hb hby at_121)
    have K35 := K32.wr W35 (Or.inr sz_b32)
    have N35 := Fr.snoc X35 N0 g_b32
    have V_36 : Arv Z h35 b32 k32 .byte (8 : Int32) [(.int p4.toInt32.toInt8.toInt32.toInt8.toInt32), (.int 0), (.int 0), (.int 0), (.int 0), (.int 0), (.int 0), (.int 0)] (.int 0) := Arv.set Ar34 aq34 aS34 aN34 aH34 aG34 (fits_nar_byte _) W35 0 rfl (Nat.le_of_ble_eq_true rfl)
    refine Goes.on (fun t k => st35 t k) ?_
    show Goes p e below QQ (T35.setTop (mkF m 122 #[iv p1, iv p2, iv p3, .val (.long p4), .second, iv (p1 &&& (3 : Int32)), iv (p2 &&& (2147483647 : Int32)), iv cp, iv 2, iv at', rv b32] []))
    refine Goes.on (fun t k => XS.aload X35.here hx rfl (hb hby at_122) rfl rfl k) ?_
    show Goes p e below QQ (T35.setTop (mkF m 124 #[iv p1, iv p2, iv p3, .val (.long p4), .second, iv (p1 &&& (3 : Int32)), iv (p2 &&& (2147483647 : Int32)), iv cp, iv 2, iv at', rv b32] [(.ref b32)]))
    refine Goes.on (fun t k => XS.iconst X35.here hx rfl (hb hby at_124) k) ?_
    show Goes p e below QQ (T35.setTop (mkF m 125 #[iv p1, iv p2, iv p3, .val (.long p4), .second, iv (p1 &&& (3 : Int32)), iv (p2 &&& (2147483647 : Int32)), iv cp, iv 2, iv at', rv b32] [(.int 1), (.ref b32)]))
    refine Goes.on (fun t k => XS.lloadN X35.here hx rfl (hb hby at_125) rfl k) ?_
    show Goes p e below QQ (T35.setTop (mkF m 126 #[iv p1, iv p2, iv p3, .val (.long p4), .second, iv (p1 &&& (3 : Int32)), iv (p2 &&& (2147483647 : Int32)), iv cp, iv 2, iv at', rv b32] [(.long p4), (.int 1), (.ref b32)]))
    refine Goes.on (fun t k => XS.bipush X35.here hx rfl (hb hby at_126) k) ?_
    show Goes p e below QQ (T35.setTop (mkF m 128 #[iv p1, iv p2, iv p3, .val (.long p4), .second, iv (p1 &&& (3 : Int32)), iv (p2 &&& (2147483647 : Int32)), iv cp, iv 2, iv at', rv b32] [(.int 8), (.long p4), (.int 1), (.ref b32)]))
    refine Goes.on (fun t k => XS.lshr X35.here hx rfl (hb hby at_128) rfl k) ?_
    show Goes p e below QQ (T35.setTop (mkF m 129 #[iv p1, iv p2, iv p3, .val (.long p4), .second, iv (p1 &&& (3 : Int32)), iv (p2 &&& (2147483647 : Int32)), iv cp, iv 2, iv at', rv b32] [(.long (p4 >>> ((8 : Int32) &&& 0x3f).toInt64)), (.int 1), (.ref b32)]))
    refine Goes.on (fun t k => XS.l2i X35.here hx rfl (hb hby at_129) rfl k) ?_
    show Goes p e below QQ (T35.setTop (mkF m 130 #[iv p1, iv p2, iv p3, .val (.long p4), .second, iv (p1 &&& (3 : Int32)), iv (p2 &&& (2147483647 : Int32)), iv cp, iv 2, iv at', rv b32] [(.int (p4 >>> ((8 : Int32) &&& 0x3f).toInt64).toInt32), (.int 1), (.ref b32)]))
    refine Goes.on (fun t k => XS.i2b X35.here hx rfl (hb hby at_130) rfl k) ?_
    show Goes p e below QQ (T35.setTop (mkF m 131 #[iv p1, iv p2, iv p3, .val (.long p4), .second, iv (p1 &&& (3 : Int32)), iv (p2 &&& (2147483647 : Int32)), iv cp, iv 2, iv at', rv b32] [(.int (p4 >>> ((8 : Int32) &&& 0x3f).toInt64).toInt32.toInt8.toInt32), (.int 1), (.ref b32)]))
    obtain ⟨cl37, Ar37, aq37, aS37, aN37, aH37, aG37⟩ := id V_36
    have hin37 := inb_of (j := (1 : Int32)) aS37 ⟨by decide, by decide⟩
    obtain ⟨T38, h38, X38, e38, W38, st38⟩ := stB X35 hx hZ e35 Ar37 (j := (1 : Int32)) hin37 (g := (mkF m 131 #[iv p1, iv p2, iv p3, .val (.long p4), .second, iv (p1 &&& (3 : Int32)), iv (p2 &&& (2147483647 : Int32)), iv cp, iv 2, iv at', rv b32] [(.int (p4 >>> ((8 : Int32) &&& 0x3f).toInt64).toInt32.toInt8.toInt32), (.int 1), (.ref b32)])) rfl rfl (hb hby at_131)
    have K38 := K35.wr W38 (Or.inr sz_b32)
    have N38 := Fr.snoc X38 N35 g_b32
    have V_39 : Arv Z h38 b32 k32 .byte (8 : Int32) [(.int p4.toInt32.toInt8.toInt32.toInt8.toInt32), (.int (p4 >>> ((8 : Int32) &&& 0x3f).toInt64).toInt32.toInt8.toInt32.toInt8.toInt32), (.int 0), (.int 0), (.int 0), (.int 0), (.int 0), (.int 0)] (.int 0) := Arv.set Ar37 aq37 aS37 aN37 aH37 aG37 (fits_nar_byte _) W38 1 rfl (Nat.le_of_ble_eq_true rfl)
    refine Goes.on (fun t k => st38 t k) ?_
    show Goes p e below QQ (T38.setTop (mkF m 132 #[iv p1, iv p2, iv p3, .val (.long p4), .second, iv (p1 &&& (3 : Int32)), iv (p2 &&& (2147483647 : Int32)), iv cp, iv 2, iv at', rv b32] []))
    refine Goes.on (fun t k => XS.aload X38.here hx rfl (hb hby at_132) rfl rfl k) ?_
    show Goes p e below QQ (T38.setTop (mkF m 134 #[iv p1, iv p2, iv p3, .val (.long p4), .second, iv (p1 &&& (3 : Int32)), iv (p2 &&& (2147483647 : Int32)), iv cp, iv 2, iv at', rv b32] [(.ref b32)]))
    refine Goes.on (fun t k => XS.iconst X38.here hx rfl (hb hby at_134) k) ?_
    show Goes p e below QQ (T38.setTop (mkF m 135 #[iv p1, iv p2, iv p3, .val (.long p4), .second, iv (p1 &&& (3 : Int32)), iv (p2 &&& (2147483647 : Int32)), iv cp, iv 2, iv at', rv b32] [(.int 2), (.ref b32)]))
    refine Goes.on (fun t k => XS.lloadN X38.here hx rfl (hb hby at_135) rfl k) ?_
    show Goes p e below QQ (T38.setTop (mkF m 136 #[iv p1, iv p2, iv p3, .val (.long p4), .second, iv (p1 &&& (3 : Int32)), iv (p2 &&& (2147483647 : Int32)), iv cp, iv 2, iv at', rv b32] [(.long p4), (.int 2), (.ref b32)]))
    refine Goes.on (fun t k => XS.bipush X38.here hx rfl (hb hby at_136) k) ?_
    show Goes p e below QQ (T38.setTop (mkF m 138 #[iv p1, iv p2, iv p3, .val (.long p4), .second, iv (p1 &&& (3 : Int32)), iv (p2 &&& (2147483647 : Int32)), iv cp, iv 2, iv at', rv b32] [(.int 16), (.long p4), (.int 2), (.ref b32)]))
    refine Goes.on (fun t k => XS.lshr X38.here hx rfl (hb hby at_138) rfl k) ?_
    show Goes p e below QQ (T38.setTop (mkF m 139 #[iv p1, iv p2, iv p3, .val (.long p4), .second, iv (p1 &&& (3 : Int32)), iv (p2 &&& (2147483647 : Int32)), iv cp, iv 2, iv at', rv b32] [(.long (p4 >>> ((16 : Int32) &&& 0x3f).toInt64)), (.int 2), (.ref b32)]))
    refine Goes.on (fun t k => XS.l2i X38.here hx rfl (hb hby at_139) rfl k) ?_
    show Goes p e below QQ (T38.setTop (mkF m 140 #[iv p1, iv p2, iv p3, .val (.long p4), .second, iv (p1 &&& (3 : Int32)), iv (p2 &&& (2147483647 : Int32)), iv cp, iv 2, iv at', rv b32] [(.int (p4 >>> ((16 : Int32) &&& 0x3f).toInt64).toInt32), (.int 2), (.ref b32)]))
    refine Goes.on (fun t k => XS.i2b X38.here hx rfl (hb hby at_140) rfl k) ?_
    show Goes p e below QQ (T38.setTop (mkF m 141 #[iv p1, iv p2, iv p3, .val (.long p4), .second, iv (p1 &&& (3 : Int32)), iv (p2 &&& (2147483647 : Int32)), iv cp, iv 2, iv at', rv b32] [(.int (p4 >>> ((16 : Int32) &&& 0x3f).toInt64).toInt32.toInt8.toInt32), (.int 2), (.ref b32)]))
    obtain ⟨cl40, Ar40, aq40, aS40, aN40, aH40, aG40⟩ := id V_39
    have hin40 := inb_of (j := (2 : Int32)) aS40 ⟨by decide, by decide⟩
    obtain ⟨T41, h41, X41, e41, W41, st41⟩ := stB X38 hx hZ e38 Ar40 (j := (2 : Int32)) hin40 (g := (mkF m 141 #[iv p1, iv p2, iv p3, .val (.long p4), .second, iv (p1 &&& (3 : Int32)), iv (p2 &&& (2147483647 : Int32)), iv cp, iv 2, iv at', rv b32] [(.int (p4 >>> ((16 : Int32) &&& 0x3f).toInt64).toInt32.toInt8.toInt32), (.int 2), (.ref b32)])) rfl rfl (hb hby at_141)
    have K41 := K38.wr W41 (Or.inr sz_b32)
    have N41 := Fr.snoc X41 N38 g_b32
    have V_42 : Arv Z h41 b32 k32 .byte (8 : Int32) [(.int p4.toInt32.toInt8.toInt32.toInt8.toInt32), (.int (p4 >>> ((8 : Int32) &&& 0x3f).toInt64).toInt32.toInt8.toInt32.toInt8.toInt32), (.int (p4 >>> ((16 : Int32) &&& 0x3f).toInt64).toInt32.toInt8.toInt32.toInt8.toInt32), (.int 0), (.int 0), (.int 0), (.int 0), (.int 0)] (.int 0) := Arv.set Ar40 aq40 aS40 aN40 aH40 aG40 (fits_nar_byte _) W41 2 rfl (Nat.le_of_ble_eq_true rfl)
    refine Goes.on (fun t k => st41 t k) ?_
    show Goes p e below QQ (T41.setTop (mkF m 142 #[iv p1, iv p2, iv p3, .val (.long p4), .second, iv (p1 &&& (3 : Int32)), iv (p2 &&& (2147483647 : Int32)), iv cp, iv 2, iv at', rv b32] []))
    refine Goes.on (fun t k => XS.aload X41.here hx rfl (hb hby at_142) rfl rfl k) ?_
    show Goes p e below QQ (T41.setTop (mkF m 144 #[iv p1, iv p2, iv p3, .val (.long p4), .second, iv (p1 &&& (3 : Int32)), iv (p2 &&& (2147483647 : Int32)), iv cp, iv 2, iv at', rv b32] [(.ref b32)]))
    refine Goes.on (fun t k => XS.iconst X41.here hx rfl (hb hby at_144) k) ?_
    show Goes p e below QQ (T41.setTop (mkF m 145 #[iv p1, iv p2, iv p3, .val (.long p4), .second, iv (p1 &&& (3 : Int32)), iv (p2 &&& (2147483647 : Int32)), iv cp, iv 2, iv at', rv b32] [(.int 3), (.ref b32)]))
    refine Goes.on (fun t k => XS.lloadN X41.here hx rfl (hb hby at_145) rfl k) ?_
    show Goes p e below QQ (T41.setTop (mkF m 146 #[iv p1, iv p2, iv p3, .val (.long p4), .second, iv (p1 &&& (3 : Int32)), iv (p2 &&& (2147483647 : Int32)), iv cp, iv 2, iv at', rv b32] [(.long p4), (.int 3), (.ref b32)]))
    refine Goes.on (fun t k => XS.bipush X41.here hx rfl (hb hby at_146) k) ?_
    show Goes p e below QQ (T41.setTop (mkF m 148 #[iv p1, iv p2, iv p3, .val (.long p4), .second, iv (p1 &&& (3 : Int32)), iv (p2 &&& (2147483647 : Int32)), iv cp, iv 2, iv at', rv b32] [(.int 24), (.long p4), (.int 3), (.ref b32)]))
    refine Goes.on (fun t k => XS.lshr X41.here hx rfl (hb hby at_148) rfl k) ?_
    show Goes p e below QQ (T41.setTop (mkF m 149 #[iv p1, iv p2, iv p3, .val (.long p4), .second, iv (p1 &&& (3 : Int32)), iv (p2 &&& (2147483647 : Int32)), iv cp, iv 2, iv at', rv b32] [(.long (p4 >>> ((24 : Int32) &&& 0x3f).toInt64)), (.int 3), (.ref b32)]))
    refine Goes.on (fun t k => XS.l2i X41.here hx rfl (hb hby at_149) rfl k) ?_
    show Goes p e below QQ (T41.setTop (mkF m 150 #[iv p1, iv p2, iv p3, .val (.long p4), .second, iv (p1 &&& (3 : Int32)), iv (p2 &&& (2147483647 : Int32)), iv cp, iv 2, iv at', rv b32] [(.int (p4 >>> ((24 : Int32) &&& 0x3f).toInt64).toInt32), (.int 3), (.ref b32)]))
    refine Goes.on (fun t k => XS.i2b X41.here hx rfl (hb hby at_150) rfl k) ?_
    show Goes p e below QQ (T41.setTop (mkF m 151 #[iv p1, iv p2, iv p3, .val (.long p4), .second, iv (p1 &&& (3 : Int32)), iv (p2 &&& (2147483647 : Int32)), iv cp, iv 2, iv at', rv b32] [(.int (p4 >>> ((24 : Int32) &&& 0x3f).toInt64).toInt32.toInt8.toInt32), (.int 3), (.ref b32)]))
    obtain ⟨cl43, Ar43, aq43, aS43, aN43, aH43, aG43⟩ := id V_42
    have hin43 := inb_of (j := (3 : Int32)) aS43 ⟨by decide, by decide⟩
    obtain ⟨T44, h44, X44, e44, W44, st44⟩ := stB X41 hx hZ e41 Ar43 (j := (3 : Int32)) hin43 (g := (mkF m 151 #[iv p1, iv p2, iv p3, .val (.long p4), .second, iv (p1 &&& (3 : Int32)), iv (p2 &&& (2147483647 : Int32)), iv cp, iv 2, iv at', rv b32] [(.int (p4 >>> ((24 : Int32) &&& 0x3f).toInt64).toInt32.toInt8.toInt32), (.int 3), (.ref b32)])) rfl rfl (hb hby at_151)
    have K44 := K41.wr W44 (Or.inr sz_b32)
    have N44 := Fr.snoc X44 N41 g_b32
    have V_45 : Arv Z h44 b32 k32 .byte (8 : Int32) [(.int p4.toInt32.toInt8.toInt32.toInt8.toInt32), (.int (p4 >>> ((8 : Int32) &&& 0x3f).toInt64).toInt32.toInt8.toInt32.toInt8.toInt32), (.int (p4 >>> ((16 : Int32) &&& 0x3f).toInt64).toInt32.toInt8.toInt32.toInt8.toInt32), (.int (p4 >>> ((24 : Int32) &&& 0x3f).toInt64).toInt32.toInt8.toInt32.toInt8.toInt32), (.int 0), (.int 0), (.int 0), (.int 0)] (.int 0) := Arv.set Ar43 aq43 aS43 aN43 aH43 aG43 (fits_nar_byte _) W44 3 rfl (Nat.le_of_ble_eq_true rfl)
    refine Goes.on (fun t k => st44 t k) ?_
    show Goes p e below QQ (T44.setTop (mkF m 152 #[iv p1, iv p2, iv p3, .val (.long p4), .second, iv (p1 &&& (3 : Int32)), iv (p2 &&& (2147483647 : Int32)), iv cp, iv 2, iv at', rv b32] []))
    refine Goes.on (fun t k => XS.aload X44.here hx rfl (hb hby at_152) rfl rfl k) ?_
    show Goes p e below QQ (T44.setTop (mkF m 154 #[iv p1, iv p2, iv p3, .val (.long p4), .second, iv (p1 &&& (3 : Int32)), iv (p2 &&& (2147483647 : Int32)), iv cp, iv 2, iv at', rv b32] [(.ref b32)]))
    refine Goes.on (fun t k => XS.iconst X44.here hx rfl (hb hby at_154) k) ?_
    show Goes p e below QQ (T44.setTop (mkF m 155 #[iv p1, iv p2, iv p3, .val (.long p4), .second, iv (p1 &&& (3 : Int32)), iv (p2 &&& (2147483647 : Int32)), iv cp, iv 2, iv at', rv b32] [(.int 4), (.ref b32)]))
    refine Goes.on (fun t k => XS.lloadN X44.here hx rfl (hb hby at_155) rfl k) ?_
    show Goes p e below QQ (T44.setTop (mkF m 156 #[iv p1, iv p2, iv p3, .val (.long p4), .second, iv (p1 &&& (3 : Int32)), iv (p2 &&& (2147483647 : Int32)), iv cp, iv 2, iv at', rv b32] [(.long p4), (.int 4), (.ref b32)]))
    refine Goes.on (fun t k => XS.bipush X44.here hx rfl (hb hby at_156) k) ?_
    show Goes p e below QQ (T44.setTop (mkF m 158 #[iv p1, iv p2, iv p3, .val (.long p4), .second, iv (p1 &&& (3 : Int32)), iv (p2 &&& (2147483647 : Int32)), iv cp, iv 2, iv at', rv b32] [(.int 32), (.long p4), (.int 4), (.ref b32)]))
    refine Goes.on (fun t k => XS.lshr X44.here hx rfl (hb hby at_158) rfl k) ?_
    show Goes p e below QQ (T44.setTop (mkF m 159 #[iv p1, iv p2, iv p3, .val (.long p4), .second, iv (p1 &&& (3 : Int32)), iv (p2 &&& (2147483647 : Int32)), iv cp, iv 2, iv at', rv b32] [(.long (p4 >>> ((32 : Int32) &&& 0x3f).toInt64)), (.int 4), (.ref b32)]))
    refine Goes.on (fun t k => XS.l2i X44.here hx rfl (hb hby at_159) rfl k) ?_
    show Goes p e below QQ (T44.setTop (mkF m 160 #[iv p1, iv p2, iv p3, .val (.long p4), .second, iv (p1 &&& (3 : Int32)), iv (p2 &&& (2147483647 : Int32)), iv cp, iv 2, iv at', rv b32] [(.int (p4 >>> ((32 : Int32) &&& 0x3f).toInt64).toInt32), (.int 4), (.ref b32)]))
    refine Goes.on (fun t k => XS.i2b X44.here hx rfl (hb hby at_160) rfl k) ?_
    show Goes p e below QQ (T44.setTop (mkF m 161 #[iv p1, iv p2, iv p3, .val (.long p4), .second, iv (p1 &&& (3 : Int32)), iv (p2 &&& (2147483647 : Int32)), iv cp, iv 2, iv at', rv b32] [(.int (p4 >>> ((32 : Int32) &&& 0x3f).toInt64).toInt32.toInt8.toInt32), (.int 4), (.ref b32)]))
    obtain ⟨cl46, Ar46, aq46, aS46, aN46, aH46, aG46⟩ := id V_45
    have hin46 := inb_of (j := (4 : Int32)) aS46 ⟨by decide, by decide⟩
    obtain ⟨T47, h47, X47, e47, W47, st47⟩ := stB X44 hx hZ e44 Ar46 (j := (4 : Int32)) hin46 (g := (mkF m 161 #[iv p1, iv p2, iv p3, .val (.long p4), .second, iv (p1 &&& (3 : Int32)), iv (p2 &&& (2147483647 : Int32)), iv cp, iv 2, iv at', rv b32] [(.int (p4 >>> ((32 : Int32) &&& 0x3f).toInt64).toInt32.toInt8.toInt32), (.int 4), (.ref b32)])) rfl rfl (hb hby at_161)
    have K47 := K44.wr W47 (Or.inr sz_b32)
    have N47 := Fr.snoc X47 N44 g_b32
    have V_48 : Arv Z h47 b32 k32 .byte (8 : Int32) [(.int p4.toInt32.toInt8.toInt32.toInt8.toInt32), (.int (p4 >>> ((8 : Int32) &&& 0x3f).toInt64).toInt32.toInt8.toInt32.toInt8.toInt32), (.int (p4 >>> ((16 : Int32) &&& 0x3f).toInt64).toInt32.toInt8.toInt32.toInt8.toInt32), (.int (p4 >>> ((24 : Int32) &&& 0x3f).toInt64).toInt32.toInt8.toInt32.toInt8.toInt32), (.int (p4 >>> ((32 : Int32) &&& 0x3f).toInt64).toInt32.toInt8.toInt32.toInt8.toInt32), (.int 0), (.int 0), (.int 0)] (.int 0) := Arv.set Ar46 aq46 aS46 aN46 aH46 aG46 (fits_nar_byte _) W47 4 rfl (Nat.le_of_ble_eq_true rfl)
    refine Goes.on (fun t k => st47 t k) ?_
    show Goes p e below QQ (T47.setTop (mkF m 162 #[iv p1, iv p2, iv p3, .val (.long p4), .second, iv (p1 &&& (3 : Int32)), iv (p2 &&& (2147483647 : Int32)), iv cp, iv 2, iv at', rv b32] []))
    refine Goes.on (fun t k => XS.aload X47.here hx rfl (hb hby at_162) rfl rfl k) ?_
    show Goes p e below QQ (T47.setTop (mkF m 164 #[iv p1, iv p2, iv p3, .val (.long p4), .second, iv (p1 &&& (3 : Int32)), iv (p2 &&& (2147483647 : Int32)), iv cp, iv 2, iv at', rv b32] [(.ref b32)]))
    refine Goes.on (fun t k => XS.iconst X47.here hx rfl (hb hby at_164) k) ?_
    show Goes p e below QQ (T47.setTop (mkF m 165 #[iv p1, iv p2, iv p3, .val (.long p4), .second, iv (p1 &&& (3 : Int32)), iv (p2 &&& (2147483647 : Int32)), iv cp, iv 2, iv at', rv b32] [(.int 5), (.ref b32)]))
    refine Goes.on (fun t k => XS.lloadN X47.here hx rfl (hb hby at_165) rfl k) ?_
    show Goes p e below QQ (T47.setTop (mkF m 166 #[iv p1, iv p2, iv p3, .val (.long p4), .second, iv (p1 &&& (3 : Int32)), iv (p2 &&& (2147483647 : Int32)), iv cp, iv 2, iv at', rv b32] [(.long p4), (.int 5), (.ref b32)]))
    refine Goes.on (fun t k => XS.bipush X47.here hx rfl (hb hby at_166) k) ?_
    show Goes p e below QQ (T47.setTop (mkF m 168 #[iv p1, iv p2, iv p3, .val (.long p4), .second, iv (p1 &&& (3 : Int32)), iv (p2 &&& (2147483647 : Int32)), iv cp, iv 2, iv at', rv b32] [(.int 40), (.long p4), (.int 5), (.ref b32)]))
    refine Goes.on (fun t k => XS.lshr X47.here hx rfl (hb hby at_168) rfl k) ?_
    show Goes p e below QQ (T47.setTop (mkF m 169 #[iv p1, iv p2, iv p3, .val (.long p4), .second, iv (p1 &&& (3 : Int32)), iv (p2 &&& (2147483647 : Int32)), iv cp, iv 2, iv at', rv b32] [(.long (p4 >>> ((40 : Int32) &&& 0x3f).toInt64)), (.int 5), (.ref b32)]))
    refine Goes.on (fun t k => XS.l2i X47.here hx rfl (hb hby at_169) rfl k) ?_
    show Goes p e below QQ (T47.setTop (mkF m 170 #[iv p1, iv p2, iv p3, .val (.long p4), .second, iv (p1 &&& (3 : Int32)), iv (p2 &&& (2147483647 : Int32)), iv cp, iv 2, iv at', rv b32] [(.int (p4 >>> ((40 : Int32) &&& 0x3f).toInt64).toInt32), (.int 5), (.ref b32)]))
    refine Goes.on (fun t k => XS.i2b X47.here hx rfl (hb hby at_170) rfl k) ?_
    show Goes p e below QQ (T47.setTop (mkF m 171 #[iv p1, iv p2, iv p3, .val (.long p4), .second, iv (p1 &&& (3 : Int32)), iv (p2 &&& (2147483647 : Int32)), iv cp, iv 2, iv at', rv b32] [(.int (p4 >>> ((40 : Int32) &&& 0x3f).toInt64).toInt32.toInt8.toInt32), (.int 5), (.ref b32)]))
    obtain ⟨cl49, Ar49, aq49, aS49, aN49, aH49, aG49⟩ := id V_48
    have hin49 := inb_of (j := (5 : Int32)) aS49 ⟨by decide, by decide⟩
    obtain ⟨T50, h50, X50, e50, W50, st50⟩ := stB X47 hx hZ e47 Ar49 (j := (5 : Int32)) hin49 (g := (mkF m 171 #[iv p1, iv p2, iv p3, .val (.long p4), .second, iv (p1 &&& (3 : Int32)), iv (p2 &&& (2147483647 : Int32)), iv cp, iv 2, iv at', rv b32] [(.int (p4 >>> ((40 : Int32) &&& 0x3f).toInt64).toInt32.toInt8.toInt32), (.int 5), (.ref b32)])) rfl rfl (hb hby at_171)
    have K50 := K47.wr W50 (Or.inr sz_b32)
    have N50 := Fr.snoc X50 N47 g_b32
    have V_51 : Arv Z h50 b32 k32 .byte (8 : Int32) [(.int p4.toInt32.toInt8.toInt32.toInt8.toInt32), (.int (p4 >>> ((8 : Int32) &&& 0x3f).toInt64).toInt32.toInt8.toInt32.toInt8.toInt32), (.int (p4 >>> ((16 : Int32) &&& 0x3f).toInt64).toInt32.toInt8.toInt32.toInt8.toInt32), (.int (p4 >>> ((24 : Int32) &&& 0x3f).toInt64).toInt32.toInt8.toInt32.toInt8.toInt32), (.int (p4 >>> ((32 : Int32) &&& 0x3f).toInt64).toInt32.toInt8.toInt32.toInt8.toInt32), (.int (p4 >>> ((40 : Int32) &&& 0x3f).toInt64).toInt32.toInt8.toInt32.toInt8.toInt32), (.int 0), (.int 0)] (.int 0) := Arv.set Ar49 aq49 aS49 aN49 aH49 aG49 (fits_nar_byte _) W50 5 rfl (Nat.le_of_ble_eq_true rfl)
    refine Goes.on (fun t k => st50 t k) ?_
    show Goes p e below QQ (T50.setTop (mkF m 172 #[iv p1, iv p2, iv p3, .val (.long p4), .second, iv (p1 &&& (3 : Int32)), iv (p2 &&& (2147483647 : Int32)), iv cp, iv 2, iv at', rv b32] []))
    refine Goes.on (fun t k => XS.aload X50.here hx rfl (hb hby at_172) rfl rfl k) ?_
    show Goes p e below QQ (T50.setTop (mkF m 174 #[iv p1, iv p2, iv p3, .val (.long p4), .second, iv (p1 &&& (3 : Int32)), iv (p2 &&& (2147483647 : Int32)), iv cp, iv 2, iv at', rv b32] [(.ref b32)]))
    refine Goes.on (fun t k => XS.bipush X50.here hx rfl (hb hby at_174) k) ?_
    show Goes p e below QQ (T50.setTop (mkF m 176 #[iv p1, iv p2, iv p3, .val (.long p4), .second, iv (p1 &&& (3 : Int32)), iv (p2 &&& (2147483647 : Int32)), iv cp, iv 2, iv at', rv b32] [(.int 6), (.ref b32)]))
    refine Goes.on (fun t k => XS.lloadN X50.here hx rfl (hb hby at_176) rfl k) ?_
    show Goes p e below QQ (T50.setTop (mkF m 177 #[iv p1, iv p2, iv p3, .val (.long p4), .second, iv (p1 &&& (3 : Int32)), iv (p2 &&& (2147483647 : Int32)), iv cp, iv 2, iv at', rv b32] [(.long p4), (.int 6), (.ref b32)]))
    refine Goes.on (fun t k => XS.bipush X50.here hx rfl (hb hby at_177) k) ?_
    show Goes p e below QQ (T50.setTop (mkF m 179 #[iv p1, iv p2, iv p3, .val (.long p4), .second, iv (p1 &&& (3 : Int32)), iv (p2 &&& (2147483647 : Int32)), iv cp, iv 2, iv at', rv b32] [(.int 48), (.long p4), (.int 6), (.ref b32)]))
    refine Goes.on (fun t k => XS.lshr X50.here hx rfl (hb hby at_179) rfl k) ?_
    show Goes p e below QQ (T50.setTop (mkF m 180 #[iv p1, iv p2, iv p3, .val (.long p4), .second, iv (p1 &&& (3 : Int32)), iv (p2 &&& (2147483647 : Int32)), iv cp, iv 2, iv at', rv b32] [(.long (p4 >>> ((48 : Int32) &&& 0x3f).toInt64)), (.int 6), (.ref b32)]))
    refine Goes.on (fun t k => XS.l2i X50.here hx rfl (hb hby at_180) rfl k) ?_
    show Goes p e below QQ (T50.setTop (mkF m 181 #[iv p1, iv p2, iv p3, .val (.long p4), .second, iv (p1 &&& (3 : Int32)), iv (p2 &&& (2147483647 : Int32)), iv cp, iv 2, iv at', rv b32] [(.int (p4 >>> ((48 : Int32) &&& 0x3f).toInt64).toInt32), (.int 6), (.ref b32)]))
    refine Goes.on (fun t k => XS.i2b X50.here hx rfl (hb hby at_181) rfl k) ?_
    show Goes p e below QQ (T50.setTop (mkF m 182 #[iv p1, iv p2, iv p3, .val (.long p4), .second, iv (p1 &&& (3 : Int32)), iv (p2 &&& (2147483647 : Int32)), iv cp, iv 2, iv at', rv b32] [(.int (p4 >>> ((48 : Int32) &&& 0x3f).toInt64).toInt32.toInt8.toInt32), (.int 6), (.ref b32)]))
    obtain ⟨cl52, Ar52, aq52, aS52, aN52, aH52, aG52⟩ := id V_51
    have hin52 := inb_of (j := (6 : Int32)) aS52 ⟨by decide, by decide⟩
    obtain ⟨T53, h53, X53, e53, W53, st53⟩ := stB X50 hx hZ e50 Ar52 (j := (6 : Int32)) hin52 (g := (mkF m 182 #[iv p1, iv p2, iv p3, .val (.long p4), .second, iv (p1 &&& (3 : Int32)), iv (p2 &&& (2147483647 : Int32)), iv cp, iv 2, iv at', rv b32] [(.int (p4 >>> ((48 : Int32) &&& 0x3f).toInt64).toInt32.toInt8.toInt32), (.int 6), (.ref b32)])) rfl rfl (hb hby at_182)
    have K53 := K50.wr W53 (Or.inr sz_b32)
    have N53 := Fr.snoc X53 N50 g_b32
    have V_54 : Arv Z h53 b32 k32 .byte (8 : Int32) [(.int p4.toInt32.toInt8.toInt32.toInt8.toInt32), (.int (p4 >>> ((8 : Int32) &&& 0x3f).toInt64).toInt32.toInt8.toInt32.toInt8.toInt32), (.int (p4 >>> ((16 : Int32) &&& 0x3f).toInt64).toInt32.toInt8.toInt32.toInt8.toInt32), (.int (p4 >>> ((24 : Int32) &&& 0x3f).toInt64).toInt32.toInt8.toInt32.toInt8.toInt32), (.int (p4 >>> ((32 : Int32) &&& 0x3f).toInt64).toInt32.toInt8.toInt32.toInt8.toInt32), (.int (p4 >>> ((40 : Int32) &&& 0x3f).toInt64).toInt32.toInt8.toInt32.toInt8.toInt32), (.int (p4 >>> ((48 : Int32) &&& 0x3f).toInt64).toInt32.toInt8.toInt32.toInt8.toInt32), (.int 0)] (.int 0) := Arv.set Ar52 aq52 aS52 aN52 aH52 aG52 (fits_nar_byte _) W53 6 rfl (Nat.le_of_ble_eq_true rfl)
    refine Goes.on (fun t k => st53 t k) ?_
    show Goes p e below QQ (T53.setTop (mkF m 183 #[iv p1, iv p2, iv p3, .val (.long p4), .second, iv (p1 &&& (3 : Int32)), iv (p2 &&& (2147483647 : Int32)), iv cp, iv 2, iv at', rv b32] []))
    refine Goes.on (fun t k => XS.aload X53.here hx rfl (hb hby at_183) rfl rfl k) ?_
    show Goes p e below QQ (T53.setTop (mkF m 185 #[iv p1, iv p2, iv p3, .val (.long p4), .second, iv (p1 &&& (3 : Int32)), iv (p2 &&& (2147483647 : Int32)), iv cp, iv 2, iv at', rv b32] [(.ref b32)]))
    refine Goes.on (fun t k => XS.bipush X53.here hx rfl (hb hby at_185) k) ?_
    show Goes p e below QQ (T53.setTop (mkF m 187 #[iv p1, iv p2, iv p3, .val (.long p4), .second, iv (p1 &&& (3 : Int32)), iv (p2 &&& (2147483647 : Int32)), iv cp, iv 2, iv at', rv b32] [(.int 7), (.ref b32)]))
    refine Goes.on (fun t k => XS.lloadN X53.here hx rfl (hb hby at_187) rfl k) ?_
    show Goes p e below QQ (T53.setTop (mkF m 188 #[iv p1, iv p2, iv p3, .val (.long p4), .second, iv (p1 &&& (3 : Int32)), iv (p2 &&& (2147483647 : Int32)), iv cp, iv 2, iv at', rv b32] [(.long p4), (.int 7), (.ref b32)]))
    refine Goes.on (fun t k => XS.bipush X53.here hx rfl (hb hby at_188) k) ?_
    show Goes p e below QQ (T53.setTop (mkF m 190 #[iv p1, iv p2, iv p3, .val (.long p4), .second, iv (p1 &&& (3 : Int32)), iv (p2 &&& (2147483647 : Int32)), iv cp, iv 2, iv at', rv b32] [(.int 56), (.long p4), (.int 7), (.ref b32)]))
    refine Goes.on (fun t k => XS.lshr X53.here hx rfl (hb hby at_190) rfl k) ?_
    show Goes p e below QQ (T53.setTop (mkF m 191 #[iv p1, iv p2, iv p3, .val (.long p4), .second, iv (p1 &&& (3 : Int32)), iv (p2 &&& (2147483647 : Int32)), iv cp, iv 2, iv at', rv b32] [(.long (p4 >>> ((56 : Int32) &&& 0x3f).toInt64)), (.int 7), (.ref b32)]))
    refine Goes.on (fun t k => XS.l2i X53.here hx rfl (hb hby at_191) rfl k) ?_
    show Goes p e below QQ (T53.setTop (mkF m 192 #[iv p1, iv p2, iv p3, .val (.long p4), .second, iv (p1 &&& (3 : Int32)), iv (p2 &&& (2147483647 : Int32)), iv cp, iv 2, iv at', rv b32] [(.int (p4 >>> ((56 : Int32) &&& 0x3f).toInt64).toInt32), (.int 7), (.ref b32)]))
    refine Goes.on (fun t k => XS.i2b X53.here hx rfl (hb hby at_192) rfl k) ?_
    show Goes p e below QQ (T53.setTop (mkF m 193 #[iv p1, iv p2, iv p3, .val (.long p4), .second, iv (p1 &&& (3 : Int32)), iv (p2 &&& (2147483647 : Int32)), iv cp, iv 2, iv at', rv b32] [(.int (p4 >>> ((56 : Int32) &&& 0x3f).toInt64).toInt32.toInt8.toInt32), (.int 7), (.ref b32)]))
    obtain ⟨cl55, Ar55, aq55, aS55, aN55, aH55, aG55⟩ := id V_54
    have hin55 := inb_of (j := (7 : Int32)) aS55 ⟨by decide, by decide⟩
    obtain ⟨T56, h56, X56, e56, W56, st56⟩ := stB X53 hx hZ e53 Ar55 (j := (7 : Int32)) hin55 (g := (mkF m 193 #[iv p1, iv p2, iv p3, .val (.long p4), .second, iv (p1 &&& (3 : Int32)), iv (p2 &&& (2147483647 : Int32)), iv cp, iv 2, iv at', rv b32] [(.int (p4 >>> ((56 : Int32) &&& 0x3f).toInt64).toInt32.toInt8.toInt32), (.int 7), (.ref b32)])) rfl rfl (hb hby at_193)
    have K56 := K53.wr W56 (Or.inr sz_b32)
    have N56 := Fr.snoc X56 N53 g_b32
    have V_57 : Arv Z h56 b32 k32 .byte (8 : Int32) [(.int p4.toInt32.toInt8.toInt32.toInt8.toInt32), (.int (p4 >>> ((8 : Int32) &&& 0x3f).toInt64).toInt32.toInt8.toInt32.toInt8.toInt32), (.int (p4 >>> ((16 : Int32) &&& 0x3f).toInt64).toInt32.toInt8.toInt32.toInt8.toInt32), (.int (p4 >>> ((24 : Int32) &&& 0x3f).toInt64).toInt32.toInt8.toInt32.toInt8.toInt32), (.int (p4 >>> ((32 : Int32) &&& 0x3f).toInt64).toInt32.toInt8.toInt32.toInt8.toInt32), (.int (p4 >>> ((40 : Int32) &&& 0x3f).toInt64).toInt32.toInt8.toInt32.toInt8.toInt32), (.int (p4 >>> ((48 : Int32) &&& 0x3f).toInt64).toInt32.toInt8.toInt32.toInt8.toInt32), (.int (p4 >>> ((56 : Int32) &&& 0x3f).toInt64).toInt32.toInt8.toInt32.toInt8.toInt32)] (.int 0) := Arv.set Ar55 aq55 aS55 aN55 aH55 aG55 (fits_nar_byte _) W56 7 rfl (Nat.le_of_ble_eq_true rfl)
    refine Goes.on (fun t k => st56 t k) ?_
    show Goes p e below QQ (T56.setTop (mkF m 194 #[iv p1, iv p2, iv p3, .val (.long p4), .second, iv (p1 &&& (3 : Int32)), iv (p2 &&& (2147483647 : Int32)), iv cp, iv 2, iv at', rv b32] []))
    obtain ⟨vs0, hvs0⟩ : ∃ z : List Value, z = [(.int p4.toInt32.toInt8.toInt32.toInt8.toInt32), (.int (p4 >>> ((8 : Int32) &&& 0x3f).toInt64).toInt32.toInt8.toInt32.toInt8.toInt32), (.int (p4 >>> ((16 : Int32) &&& 0x3f).toInt64).toInt32.toInt8.toInt32.toInt8.toInt32), (.int (p4 >>> ((24 : Int32) &&& 0x3f).toInt64).toInt32.toInt8.toInt32.toInt8.toInt32), (.int (p4 >>> ((32 : Int32) &&& 0x3f).toInt64).toInt32.toInt8.toInt32.toInt8.toInt32), (.int (p4 >>> ((40 : Int32) &&& 0x3f).toInt64).toInt32.toInt8.toInt32.toInt8.toInt32), (.int (p4 >>> ((48 : Int32) &&& 0x3f).toInt64).toInt32.toInt8.toInt32.toInt8.toInt32), (.int (p4 >>> ((56 : Int32) &&& 0x3f).toInt64).toInt32.toInt8.toInt32.toInt8.toInt32)] := ⟨_, rfl⟩
    have V_58 := V_57
    rw [← hvs0] at V_58
    show Goes p e below QQ (T56.setTop (mkF m 194 #[iv p1, iv p2, iv p3, .val (.long p4), .second, iv (p1 &&& (3 : Int32)), iv (p2 &&& (2147483647 : Int32)), iv cp, iv 2, iv at', rv b32] []))
    refine Goes.on (fun t k => XS.iload X56.here hx rfl (hb hby at_194) rfl k) ?_
    show Goes p e below QQ (T56.setTop (mkF m 196 #[iv p1, iv p2, iv p3, .val (.long p4), .second, iv (p1 &&& (3 : Int32)), iv (p2 &&& (2147483647 : Int32)), iv cp, iv 2, iv at', rv b32] [(.int 2)]))
    refine Goes.on (fun t k => XS.iconst X56.here hx rfl (hb hby at_196) k) ?_
    show Goes p e below QQ (T56.setTop (mkF m 197 #[iv p1, iv p2, iv p3, .val (.long p4), .second, iv (p1 &&& (3 : Int32)), iv (p2 &&& (2147483647 : Int32)), iv cp, iv 2, iv at', rv b32] [(.int 1), (.int 2)]))
    refine Goes.on (fun t k => XS.icmpYes X56.here hx rfl (pc0 := 197) (pc' := 211) rfl (hb hby at_197) rfl (feq (by decide)).2 (by decide) (by decide) k) ?_
    show Goes p e below QQ (T56.setTop (mkF m 211 #[iv p1, iv p2, iv p3, .val (.long p4), .second, iv (p1 &&& (3 : Int32)), iv (p2 &&& (2147483647 : Int32)), iv cp, iv 2, iv at', rv b32] []))
    refine Goes.on (fun t k => XS.iload X56.here hx rfl (hb hby at_211) rfl k) ?_
    show Goes p e below QQ (T56.setTop (mkF m 213 #[iv p1, iv p2, iv p3, .val (.long p4), .second, iv (p1 &&& (3 : Int32)), iv (p2 &&& (2147483647 : Int32)), iv cp, iv 2, iv at', rv b32] [(.int 2)]))
    refine Goes.on (fun t k => XS.iconst X56.here hx rfl (hb hby at_213) k) ?_
    show Goes p e below QQ (T56.setTop (mkF m 214 #[iv p1, iv p2, iv p3, .val (.long p4), .second, iv (p1 &&& (3 : Int32)), iv (p2 &&& (2147483647 : Int32)), iv cp, iv 2, iv at', rv b32] [(.int 2), (.int 2)]))
    refine Goes.on (fun t k => XS.icmpNo X56.here hx rfl (hb hby at_214) rfl (teq (by decide)).2 k) ?_
    show Goes p e below QQ (T56.setTop (mkF m 217 #[iv p1, iv p2, iv p3, .val (.long p4), .second, iv (p1 &&& (3 : Int32)), iv (p2 &&& (2147483647 : Int32)), iv cp, iv 2, iv at', rv b32] []))
    refine Goes.on (fun t k => XS.aload X56.here hx rfl (hb hby at_217) rfl rfl k) ?_
    show Goes p e below QQ (T56.setTop (mkF m 219 #[iv p1, iv p2, iv p3, .val (.long p4), .second, iv (p1 &&& (3 : Int32)), iv (p2 &&& (2147483647 : Int32)), iv cp, iv 2, iv at', rv b32] [(.ref b32)]))
    refine Goes.on (fun t k => XS.iload X56.here hx rfl (hb hby at_219) rfl k) ?_
    show Goes p e below QQ (T56.setTop (mkF m 221 #[iv p1, iv p2, iv p3, .val (.long p4), .second, iv (p1 &&& (3 : Int32)), iv (p2 &&& (2147483647 : Int32)), iv cp, iv 2, iv at', rv b32] [(.int at'), (.ref b32)]))
    refine Goes.on (fun t k => XS.sipush X56.here hx rfl (hb hby at_221) k) ?_
    show Goes p e below QQ (T56.setTop (mkF m 224 #[iv p1, iv p2, iv p3, .val (.long p4), .second, iv (p1 &&& (3 : Int32)), iv (p2 &&& (2147483647 : Int32)), iv cp, iv 2, iv at', rv b32] [(.int 192), (.int at'), (.ref b32)]))
    refine Goes.on (fun t k => XS.iload X56.here hx rfl (hb hby at_224) rfl k) ?_
    show Goes p e below QQ (T56.setTop (mkF m 226 #[iv p1, iv p2, iv p3, .val (.long p4), .second, iv (p1 &&& (3 : Int32)), iv (p2 &&& (2147483647 : Int32)), iv cp, iv 2, iv at', rv b32] [(.int cp), (.int 192), (.int at'), (.ref b32)]))
    refine Goes.on (fun t k => XS.bipush X56.here hx rfl (hb hby at_226) k) ?_
    show Goes p e below QQ (T56.setTop (mkF m 228 #[iv p1, iv p2, iv p3, .val (.long p4), .second, iv (p1 &&& (3 : Int32)), iv (p2 &&& (2147483647 : Int32)), iv cp, iv 2, iv at', rv b32] [(.int 6), (.int cp), (.int 192), (.int at'), (.ref b32)]))
    refine Goes.on (fun t k => XS.ishr X56.here hx rfl (hb hby at_228) rfl k) ?_
    show Goes p e below QQ (T56.setTop (mkF m 229 #[iv p1, iv p2, iv p3, .val (.long p4), .second, iv (p1 &&& (3 : Int32)), iv (p2 &&& (2147483647 : Int32)), iv cp, iv 2, iv at', rv b32] [(.int (cp >>> ((6 : Int32) &&& 31))), (.int 192), (.int at'), (.ref b32)]))
    refine Goes.on (fun t k => XS.ior X56.here hx rfl (hb hby at_229) rfl k) ?_
    show Goes p e below QQ (T56.setTop (mkF m 230 #[iv p1, iv p2, iv p3, .val (.long p4), .second, iv (p1 &&& (3 : Int32)), iv (p2 &&& (2147483647 : Int32)), iv cp, iv 2, iv at', rv b32] [(.int ((192 : Int32) ||| (cp >>> ((6 : Int32) &&& 31)))), (.int at'), (.ref b32)]))
    refine Goes.on (fun t k => XS.i2b X56.here hx rfl (hb hby at_230) rfl k) ?_
    show Goes p e below QQ (T56.setTop (mkF m 231 #[iv p1, iv p2, iv p3, .val (.long p4), .second, iv (p1 &&& (3 : Int32)), iv (p2 &&& (2147483647 : Int32)), iv cp, iv 2, iv at', rv b32] [(.int ((192 : Int32) ||| (cp >>> ((6 : Int32) &&& 31))).toInt8.toInt32), (.int at'), (.ref b32)]))
    obtain ⟨cl59, Ar59, aq59, aS59, aN59, aH59, aG59⟩ := id V_58
    have hin59 := inb_of (j := at') aS59 (by rcases hv4 with rfl | rfl | rfl | rfl <;> exact ⟨by decide, by decide⟩)
    obtain ⟨T60, h60, X60, e60, W60, st60⟩ := stB X56 hx hZ e56 Ar59 (j := at') hin59 (g := (mkF m 231 #[iv p1, iv p2, iv p3, .val (.long p4), .second, iv (p1 &&& (3 : Int32)), iv (p2 &&& (2147483647 : Int32)), iv cp, iv 2, iv at', rv b32] [(.int ((192 : Int32) ||| (cp >>> ((6 : Int32) &&& 31))).toInt8.toInt32), (.int at'), (.ref b32)])) rfl rfl (hb hby at_231)
    have K60 := K56.wr W60 (Or.inr sz_b32)
    have N60 := Fr.snoc X60 N56 g_b32
    have V_61 : Arv Z h60 b32 k32 .byte (8 : Int32) (vs0.set (at').toNatClampNeg (.int ((192 : Int32) ||| (cp >>> ((6 : Int32) &&& 31))).toInt8.toInt32.toInt8.toInt32)) (.int 0) := Arv.set Ar59 aq59 aS59 aN59 aH59 aG59 (fits_nar_byte _) W60 (at').toNatClampNeg rfl (by (try simp only [List.length_set]); exact (by subst hvs0; rcases hv4 with rfl | rfl | rfl | rfl <;> exact Nat.le_of_ble_eq_true rfl))
    refine Goes.on (fun t k => st60 t k) ?_
    show Goes p e below QQ (T60.setTop (mkF m 232 #[iv p1, iv p2, iv p3, .val (.long p4), .second, iv (p1 &&& (3 : Int32)), iv (p2 &&& (2147483647 : Int32)), iv cp, iv 2, iv at', rv b32] []))
    refine Goes.on (fun t k => XS.aload X60.here hx rfl (hb hby at_232) rfl rfl k) ?_
    show Goes p e below QQ (T60.setTop (mkF m 234 #[iv p1, iv p2, iv p3, .val (.long p4), .second, iv (p1 &&& (3 : Int32)), iv (p2 &&& (2147483647 : Int32)), iv cp, iv 2, iv at', rv b32] [(.ref b32)]))
    refine Goes.on (fun t k => XS.iload X60.here hx rfl (hb hby at_234) rfl k) ?_
    show Goes p e below QQ (T60.setTop (mkF m 236 #[iv p1, iv p2, iv p3, .val (.long p4), .second, iv (p1 &&& (3 : Int32)), iv (p2 &&& (2147483647 : Int32)), iv cp, iv 2, iv at', rv b32] [(.int at'), (.ref b32)]))
    refine Goes.on (fun t k => XS.iconst X60.here hx rfl (hb hby at_236) k) ?_
    show Goes p e below QQ (T60.setTop (mkF m 237 #[iv p1, iv p2, iv p3, .val (.long p4), .second, iv (p1 &&& (3 : Int32)), iv (p2 &&& (2147483647 : Int32)), iv cp, iv 2, iv at', rv b32] [(.int 1), (.int at'), (.ref b32)]))
    refine Goes.on (fun t k => XS.iadd X60.here hx rfl (hb hby at_237) rfl k) ?_
    show Goes p e below QQ (T60.setTop (mkF m 238 #[iv p1, iv p2, iv p3, .val (.long p4), .second, iv (p1 &&& (3 : Int32)), iv (p2 &&& (2147483647 : Int32)), iv cp, iv 2, iv at', rv b32] [(.int (at' + (1 : Int32))), (.ref b32)]))
    refine Goes.on (fun t k => XS.sipush X60.here hx rfl (hb hby at_238) k) ?_
    show Goes p e below QQ (T60.setTop (mkF m 241 #[iv p1, iv p2, iv p3, .val (.long p4), .second, iv (p1 &&& (3 : Int32)), iv (p2 &&& (2147483647 : Int32)), iv cp, iv 2, iv at', rv b32] [(.int 128), (.int (at' + (1 : Int32))), (.ref b32)]))
    refine Goes.on (fun t k => XS.iload X60.here hx rfl (hb hby at_241) rfl k) ?_
    show Goes p e below QQ (T60.setTop (mkF m 243 #[iv p1, iv p2, iv p3, .val (.long p4), .second, iv (p1 &&& (3 : Int32)), iv (p2 &&& (2147483647 : Int32)), iv cp, iv 2, iv at', rv b32] [(.int cp), (.int 128), (.int (at' + (1 : Int32))), (.ref b32)]))
    refine Goes.on (fun t k => XS.bipush X60.here hx rfl (hb hby at_243) k) ?_
    show Goes p e below QQ (T60.setTop (mkF m 245 #[iv p1, iv p2, iv p3, .val (.long p4), .second, iv (p1 &&& (3 : Int32)), iv (p2 &&& (2147483647 : Int32)), iv cp, iv 2, iv at', rv b32] [(.int 63), (.int cp), (.int 128), (.int (at' + (1 : Int32))), (.ref b32)]))
    refine Goes.on (fun t k => XS.iand X60.here hx rfl (hb hby at_245) rfl k) ?_
    show Goes p e below QQ (T60.setTop (mkF m 246 #[iv p1, iv p2, iv p3, .val (.long p4), .second, iv (p1 &&& (3 : Int32)), iv (p2 &&& (2147483647 : Int32)), iv cp, iv 2, iv at', rv b32] [(.int (cp &&& (63 : Int32))), (.int 128), (.int (at' + (1 : Int32))), (.ref b32)]))
    refine Goes.on (fun t k => XS.ior X60.here hx rfl (hb hby at_246) rfl k) ?_
    show Goes p e below QQ (T60.setTop (mkF m 247 #[iv p1, iv p2, iv p3, .val (.long p4), .second, iv (p1 &&& (3 : Int32)), iv (p2 &&& (2147483647 : Int32)), iv cp, iv 2, iv at', rv b32] [(.int ((128 : Int32) ||| (cp &&& (63 : Int32)))), (.int (at' + (1 : Int32))), (.ref b32)]))
    refine Goes.on (fun t k => XS.i2b X60.here hx rfl (hb hby at_247) rfl k) ?_
    show Goes p e below QQ (T60.setTop (mkF m 248 #[iv p1, iv p2, iv p3, .val (.long p4), .second, iv (p1 &&& (3 : Int32)), iv (p2 &&& (2147483647 : Int32)), iv cp, iv 2, iv at', rv b32] [(.int ((128 : Int32) ||| (cp &&& (63 : Int32))).toInt8.toInt32), (.int (at' + (1 : Int32))), (.ref b32)]))
    obtain ⟨cl62, Ar62, aq62, aS62, aN62, aH62, aG62⟩ := id V_61
    have hin62 := inb_of (j := (at' + (1 : Int32))) aS62 (by rcases hv4 with rfl | rfl | rfl | rfl <;> exact ⟨by decide, by decide⟩)
    obtain ⟨T63, h63, X63, e63, W63, st63⟩ := stB X60 hx hZ e60 Ar62 (j := (at' + (1 : Int32))) hin62 (g := (mkF m 248 #[iv p1, iv p2, iv p3, .val (.long p4), .second, iv (p1 &&& (3 : Int32)), iv (p2 &&& (2147483647 : Int32)), iv cp, iv 2, iv at', rv b32] [(.int ((128 : Int32) ||| (cp &&& (63 : Int32))).toInt8.toInt32), (.int (at' + (1 : Int32))), (.ref b32)])) rfl rfl (hb hby at_248)
    have K63 := K60.wr W63 (Or.inr sz_b32)
    have N63 := Fr.snoc X63 N60 g_b32
    have V_64 : Arv Z h63 b32 k32 .byte (8 : Int32) ((vs0.set (at').toNatClampNeg (.int ((192 : Int32) ||| (cp >>> ((6 : Int32) &&& 31))).toInt8.toInt32.toInt8.toInt32)).set ((at' + (1 : Int32))).toNatClampNeg (.int ((128 : Int32) ||| (cp &&& (63 : Int32))).toInt8.toInt32.toInt8.toInt32)) (.int 0) := Arv.set Ar62 aq62 aS62 aN62 aH62 aG62 (fits_nar_byte _) W63 ((at' + (1 : Int32))).toNatClampNeg rfl (by (try simp only [List.length_set]); exact (by subst hvs0; rcases hv4 with rfl | rfl | rfl | rfl <;> exact Nat.le_of_ble_eq_true rfl))
    refine Goes.on (fun t k => st63 t k) ?_
    show Goes p e below QQ (T63.setTop (mkF m 249 #[iv p1, iv p2, iv p3, .val (.long p4), .second, iv (p1 &&& (3 : Int32)), iv (p2 &&& (2147483647 : Int32)), iv cp, iv 2, iv at', rv b32] []))
    refine Goes.on (fun t k => XS.goto X63.here hx rfl (pc0 := 249) (pc' := 385) rfl (hb hby at_249) (by decide) (by decide) k) ?_
    show Goes p e below QQ (T63.setTop (mkF m 385 #[iv p1, iv p2, iv p3, .val (.long p4), .second, iv (p1 &&& (3 : Int32)), iv (p2 &&& (2147483647 : Int32)), iv cp, iv 2, iv at', rv b32] []))
    refine Goes.on (fun t k => XS.aload X63.here hx rfl (hb hby at_385) rfl rfl k) ?_
    show Goes p e below QQ (T63.setTop (mkF m 387 #[iv p1, iv p2, iv p3, .val (.long p4), .second, iv (p1 &&& (3 : Int32)), iv (p2 &&& (2147483647 : Int32)), iv cp, iv 2, iv at', rv b32] [(.ref b32)]))
    refine Goes.on (fun t k => XS.iload X63.here hx rfl (hb hby at_387) rfl k) ?_
    show Goes p e below QQ (T63.setTop (mkF m 389 #[iv p1, iv p2, iv p3, .val (.long p4), .second, iv (p1 &&& (3 : Int32)), iv (p2 &&& (2147483647 : Int32)), iv cp, iv 2, iv at', rv b32] [(.int at'), (.ref b32)]))
    obtain ⟨_, _, ⟨T65, L65, k65, n65⟩, -, X65, ⟨Lc65, hQ65, l65, y65, z65⟩, st65⟩ := Jvm.LawKit.callS X63 hx (y := (⟨"com/example/sober_links/soberlinks/io/Utf8", "codePointAt", "([BI)I"⟩ : MethodName)) hown (mvT hZ (hw _ (List.mem_of_getElem? (i := 2) rfl))) (mvT hZ (hw _ (List.mem_of_getElem? (i := 3) rfl))) (mvT hZ (hw _ (List.mem_of_getElem? (i := 4) rfl))) (mvT hZ (hw _ (List.mem_of_getElem? (i := 5) rfl))) (by decide) (backOf (W := 0) (rm1_2 l Z a0 hw [] b32 at' k32 (8 : Int32) ((vs0.set (at').toNatClampNeg (.int ((192 : Int32) ||| (cp >>> ((6 : Int32) &&& 31))).toInt8.toInt32.toInt8.toInt32)).set ((at' + (1 : Int32))).toNatClampNeg (.int ((128 : Int32) ||| (cp &&& (63 : Int32))).toInt8.toInt32.toInt8.toInt32)) (((192 : Int32) ||| (cp >>> ((6 : Int32) &&& 31))).toInt8.toInt32.toInt8.toInt32) (((128 : Int32) ||| (cp &&& (63 : Int32))).toInt8.toInt32.toInt8.toInt32) h63 n0 (Nat.le_trans Z0 K63.1) V_64 (by rcases hv4 with rfl | rfl | rfl | rfl <;> exact ⟨by decide, by decide⟩) (by subst hvs0; rcases hv4 with rfl | rfl | rfl | rfl <;> rfl) (by rcases hv4 with rfl | rfl | rfl | rfl <;> exact ⟨by decide, by decide⟩) (by subst hvs0; rcases hv4 with rfl | rfl | rfl | rfl <;> rfl) (own_lead2_0 cp hcp) (own_lead2_1 cp hcp)) hZ (hw _ (List.mem_of_getElem? (i := 5) rfl)) (hw _ (List.mem_of_getElem? (i := 4) rfl)) (by decide) (by decide)) (g := (mkF m 389 #[iv p1, iv p2, iv p3, .val (.long p4), .second, iv (p1 &&& (3 : Int32)), iv (p2 &&& (2147483647 : Int32)), iv cp, iv 2, iv at', rv b32] [(.int at'), (.ref b32)])) rfl (by rw [hml]; rfl) (argsL := [(.ref b32), (.int at')]) (rest := []) (lenOf pd_0 rfl) rfl (by show 2 * 0 + _ ≤ _; exact Nat.le_of_eq rfl) (hb hby at_389) (fun _ _ => ⟨rfl, e63, (by decide : 1 + 0 ≤ _), (by decide : 8 + 0 ≤ _)⟩)
    dsimp only [Pt.U, Pt.locs, Pt.cells, Pt.slots] at X65 l65 y65 z65 st65 hQ65
    subst l65 y65 z65
    obtain ⟨rfl, M65, e65⟩ := hQ65
    have N65 := Fr.app N63 M65
    refine Goes.on (fun t k => st65 _ k) ?_
    show Goes p e below QQ (T65.setTop (mkF m 392 #[iv p1, iv p2, iv p3, .val (.long p4), .second, iv (p1 &&& (3 : Int32)), iv (p2 &&& (2147483647 : Int32)), iv cp, iv 2, iv at', rv b32] [(.int ((((((192 : Int32) ||| (cp >>> ((6 : Int32) &&& 31))).toInt8.toInt32.toInt8.toInt32 &&& (255 : Int32)) &&& (31 : Int32)) <<< ((6 : Int32) &&& 31)) ||| (((128 : Int32) ||| (cp &&& (63 : Int32))).toInt8.toInt32.toInt8.toInt32 &&& (63 : Int32))))]))
    refine Goes.on (fun t k => XS.iload X65.here hx rfl (hb hby at_392) rfl k) ?_
    show Goes p e below QQ (T65.setTop (mkF m 394 #[iv p1, iv p2, iv p3, .val (.long p4), .second, iv (p1 &&& (3 : Int32)), iv (p2 &&& (2147483647 : Int32)), iv cp, iv 2, iv at', rv b32] [(.int cp), (.int ((((((192 : Int32) ||| (cp >>> ((6 : Int32) &&& 31))).toInt8.toInt32.toInt8.toInt32 &&& (255 : Int32)) &&& (31 : Int32)) <<< ((6 : Int32) &&& 31)) ||| (((128 : Int32) ||| (cp &&& (63 : Int32))).toInt8.toInt32.toInt8.toInt32 &&& (63 : Int32))))]))
    refine Goes.on (fun t k => XS.icmpNo X65.here hx rfl (hb hby at_394) rfl (teq (own_dec2 cp hcp)).2 k) ?_
    show Goes p e below QQ (T65.setTop (mkF m 397 #[iv p1, iv p2, iv p3, .val (.long p4), .second, iv (p1 &&& (3 : Int32)), iv (p2 &&& (2147483647 : Int32)), iv cp, iv 2, iv at', rv b32] []))
    refine Goes.on (fun t k => XS.iconst X65.here hx rfl (hb hby at_397) k) ?_
    show Goes p e below QQ (T65.setTop (mkF m 398 #[iv p1, iv p2, iv p3, .val (.long p4), .second, iv (p1 &&& (3 : Int32)), iv (p2 &&& (2147483647 : Int32)), iv cp, iv 2, iv at', rv b32] [(.int 1)]))
    refine Goes.on (fun t k => XS.goto X65.here hx rfl (pc0 := 398) (pc' := 402) rfl (hb hby at_398) (by decide) (by decide) k) ?_
    show Goes p e below QQ (T65.setTop (mkF m 402 #[iv p1, iv p2, iv p3, .val (.long p4), .second, iv (p1 &&& (3 : Int32)), iv (p2 &&& (2147483647 : Int32)), iv cp, iv 2, iv at', rv b32] [(.int 1)]))
    exact Goes.rN X65 hx (t := .boolean) hret (by simp) hlk (hb hby at_402) hQQ ⟨rfl, N65⟩ (by decide) (by decide)
  have J3 : ∀ cp : Int32, 2048 ≤ cp.toInt ∧ cp.toInt < 65536 → Goes p e below QQ (s₁.setTop (mkF m 104 #[iv p1, iv p2, iv p3, .val (.long p4), .second, iv (p1 &&& (3 : Int32)), iv (p2 &&& (2147483647 : Int32)), iv cp, iv 3, .unset, .unset] [])) := by
    intro cp hcp
    show Goes p e below QQ (s₁.setTop (mkF m 104 #[iv p1, iv p2, iv p3, .val (.long p4), .second, iv (p1 &&& (3 : Int32)), iv (p2 &&& (2147483647 : Int32)), iv cp, iv 3, .unset, .unset] []))
    refine Goes.on (fun t k => XS.iloadN X0.here hx rfl (hb hby at_104) rfl k) ?_
    show Goes p e below QQ (s₁.setTop (mkF m 105 #[iv p1, iv p2, iv p3, .val (.long p4), .second, iv (p1 &&& (3 : Int32)), iv (p2 &&& (2147483647 : Int32)), iv cp, iv 3, .unset, .unset] [(.int p3)]))
    refine Goes.on (fun t k => XS.iconst X0.here hx rfl (hb hby at_105) k) ?_
    show Goes p e below QQ (s₁.setTop (mkF m 106 #[iv p1, iv p2, iv p3, .val (.long p4), .second, iv (p1 &&& (3 : Int32)), iv (p2 &&& (2147483647 : Int32)), iv cp, iv 3, .unset, .unset] [(.int 3), (.int p3)]))
    refine Goes.on (fun t k => XS.iand X0.here hx rfl (hb hby at_106) rfl k) ?_
    show Goes p e below QQ (s₁.setTop (mkF m 107 #[iv p1, iv p2, iv p3, .val (.long p4), .second, iv (p1 &&& (3 : Int32)), iv (p2 &&& (2147483647 : Int32)), iv cp, iv 3, .unset, .unset] [(.int (p3 &&& (3 : Int32)))]))
    refine Goes.on (fun t k => XS.istore X0.here hx rfl (hb hby at_107) rfl (l' := #[iv p1, iv p2, iv p3, .val (.long p4), .second, iv (p1 &&& (3 : Int32)), iv (p2 &&& (2147483647 : Int32)), iv cp, iv 3, iv (p3 &&& (3 : Int32)), .unset]) rfl k) ?_
    show Goes p e below QQ (s₁.setTop (mkF m 109 #[iv p1, iv p2, iv p3, .val (.long p4), .second, iv (p1 &&& (3 : Int32)), iv (p2 &&& (2147483647 : Int32)), iv cp, iv 3, iv (p3 &&& (3 : Int32)), .unset] []))
    generalize (p3 &&& (3 : Int32)) = at' at *
    show Goes p e below QQ (s₁.setTop (mkF m 109 #[iv p1, iv p2, iv p3, .val (.long p4), .second, iv (p1 &&& (3 : Int32)), iv (p2 &&& (2147483647 : Int32)), iv cp, iv 3, iv at', .unset] []))
    refine Goes.on (fun t k => XS.bipush X0.here hx rfl (hb hby at_109) k) ?_
    show Goes p e below QQ (s₁.setTop (mkF m 111 #[iv p1, iv p2, iv p3, .val (.long p4), .second, iv (p1 &&& (3 : Int32)), iv (p2 &&& (2147483647 : Int32)), iv cp, iv 3, iv at', .unset] [(.int 8)]))
    obtain ⟨T66, h66, k66, X66, e66, E66, A66, st66⟩ := newP X0 hx hZ (hw _ (List.mem_of_getElem? (i := 1) rfl)) e0 (g := (mkF m 111 #[iv p1, iv p2, iv p3, .val (.long p4), .second, iv (p1 &&& (3 : Int32)), iv (p2 &&& (2147483647 : Int32)), iv cp, iv 3, iv at', .unset] [(.int 8)])) rfl (hb hby at_111) rfl (by decide) (cap := 8) (by decide) (by decide) (by decide) (by decide)
    obtain ⟨b66, g66⟩ : ∃ z, z = h0.size := ⟨_, rfl⟩
    rw [← g66] at A66 st66
    have sz_b66 : h0.size ≤ b66 := Nat.le_trans K0.1 (Nat.le_of_eq g66.symm)
    have g_b66 : n0 ≤ b66 := Nat.le_trans Z0 sz_b66
    have K66 := K0.ext E66
    have V_67 : Arv Z h66 b66 k66 .byte (8 : Int32) [(.int 0), (.int 0), (.int 0), (.int 0), (.int 0), (.int 0), (.int 0), (.int 0)] (.int 0) := (Arv.new A66 (by decide)).pad (pad_rep [] (.int 0) 8)
    refine Goes.on (fun t k => st66 t k) ?_
    show Goes p e below QQ (T66.setTop (mkF m 113 #[iv p1, iv p2, iv p3, .val (.long p4), .second, iv (p1 &&& (3 : Int32)), iv (p2 &&& (2147483647 : Int32)), iv cp, iv 3, iv at', .unset] [(.ref b66)]))
    refine Goes.on (fun t k => XS.astore X66.here hx rfl (hb hby at_113) rfl rfl (l' := #[iv p1, iv p2, iv p3, .val (.long p4), .second, iv (p1 &&& (3 : Int32)), iv (p2 &&& (2147483647 : Int32)), iv cp, iv 3, iv at', rv b66]) rfl k) ?_
    show Goes p e below QQ (T66.setTop (mkF m 115 #[iv p1, iv p2, iv p3, .val (.long p4), .second, iv (p1 &&& (3 : Int32)), iv (p2 &&& (2147483647 : Int32)), iv cp, iv 3, iv at', rv b66] []))
    refine Goes.on (fun t k => XS.aload X66.here hx rfl (hb hby at_115) rfl rfl k) ?_
    show Goes p e below QQ (T66.setTop (mkF m 117 #[iv p1, iv p2, iv p3, .val (.long p4), .second, iv (p1 &&& (3 : Int32)), iv (p2 &&& (2147483647 : Int32)), iv cp, iv 3, iv at', rv b66] [(.ref b66)]))
    refine Goes.on (fun t k => XS.iconst X66.here hx rfl (hb hby at_117) k) ?_
    show Goes p e below QQ (T66.setTop (mkF m 118 #[iv p1, iv p2, iv p3, .val (.long p4), .second, iv (p1 &&& (3 : Int32)), iv (p2 &&& (2147483647 : Int32)), iv cp, iv 3, iv at', rv b66] [(.int 0), (.ref b66)]))
    refine Goes.on (fun t k => XS.lloadN X66.here hx rfl (hb hby at_118) rfl k) ?_
    show Goes p e below QQ (T66.setTop (mkF m 119 #[iv p1, iv p2, iv p3, .val (.long p4), .second, iv (p1 &&& (3 : Int32)), iv (p2 &&& (2147483647 : Int32)), iv cp, iv 3, iv at', rv b66] [(.long p4), (.int 0), (.ref b66)]))
    refine Goes.on (fun t k => XS.l2i X66.here hx rfl (hb hby at_119) rfl k) ?_
    show Goes p e below QQ (T66.setTop (mkF m 120 #[iv p1, iv p2, iv p3, .val (.long p4), .second, iv (p1 &&& (3 : Int32)), iv (p2 &&& (2147483647 : Int32)), iv cp, iv 3, iv at', rv b66] [(.int p4.toInt32), (.int 0), (.ref b66)]))
    refine Goes.on (fun t k => XS.i2b X66.here hx rfl (hb hby at_120) rfl k) ?_
    show Goes p e below QQ (T66.setTop (mkF m 121 #[iv p1, iv p2, iv p3, .val (.long p4), .second, iv (p1 &&& (3 : Int32)), iv (p2 &&& (2147483647 : Int32)), iv cp, iv 3, iv at', rv b66] [(.int p4.toInt32.toInt8.toInt32), (.int 0), (.ref b66)]))
    obtain ⟨cl68, Ar68, aq68, aS68, aN68, aH68, aG68⟩ := id V_67
    have hin68 := inb_of (j := (0 : Int32)) aS68 ⟨by decide, by decide⟩
    obtain ⟨T69, h69, X69, e69, W69, st69⟩ := stB X66 hx hZ e66 Ar68 (j := (0 : Int32)) hin68 (g := (mkF m 121 #[iv p1, iv p2, iv p3, .val (.long p4), .second, iv (p1 &&& (3 : Int32)), iv (p2 &&& (2147483647 : Int32)), iv cp, iv 3, iv at', rv b66] [(.int p4.toInt32.toInt8.toInt32), (.int 0), (.ref b66)])) rfl rfl (hb hby at_121)
    have K69 := K66.wr W69 (Or.inr sz_b66)
    have N69 := Fr.snoc X69 N0 g_b66
    have V_70 : Arv Z h69 b66 k66 .byte (8 : Int32) [(.int p4.toInt32.toInt8.toInt32.toInt8.toInt32), (.int 0), (.int 0), (.int 0), (.int 0), (.int 0), (.int 0), (.int 0)] (.int 0) := Arv.set Ar68 aq68 aS68 aN68 aH68 aG68 (fits_nar_byte _) W69 0 rfl (Nat.le_of_ble_eq_true rfl)
    refine Goes.on (fun t k => st69 t k) ?_
    show Goes p e below QQ (T69.setTop (mkF m 122 #[iv p1, iv p2, iv p3, .val (.long p4), .second, iv (p1 &&& (3 : Int32)), iv (p2 &&& (2147483647 : Int32)), iv cp, iv 3, iv at', rv b66] []))
    refine Goes.on (fun t k => XS.aload X69.here hx rfl (hb hby at_122) rfl rfl k) ?_
    show Goes p e below QQ (T69.setTop (mkF m 124 #[iv p1, iv p2, iv p3, .val (.long p4), .second, iv (p1 &&& (3 : Int32)), iv (p2 &&& (2147483647 : Int32)), iv cp, iv 3, iv at', rv b66] [(.ref b66)]))
    refine Goes.on (fun t k => XS.iconst X69.here hx rfl (hb hby at_124) k) ?_
    show Goes p e below QQ (T69.setTop (mkF m 125 #[iv p1, iv p2, iv p3, .val (.long p4), .second, iv (p1 &&& (3 : Int32)), iv (p2 &&& (2147483647 : Int32)), iv cp, iv 3, iv at', rv b66] [(.int 1), (.ref b66)]))
    refine Goes.on (fun t k => XS.lloadN X69.here hx rfl (hb hby at_125) rfl k) ?_
    show Goes p e below QQ (T69.setTop (mkF m 126 #[iv p1, iv p2, iv p3, .val (.long p4), .second, iv (p1 &&& (3 : Int32)), iv (p2 &&& (2147483647 : Int32)), iv cp, iv 3, iv at', rv b66] [(.long p4), (.int 1), (.ref b66)]))
    refine Goes.on (fun t k => XS.bipush X69.here hx rfl (hb hby at_126) k) ?_
    show Goes p e below QQ (T69.setTop (mkF m 128 #[iv p1, iv p2, iv p3, .val (.long p4), .second, iv (p1 &&& (3 : Int32)), iv (p2 &&& (2147483647 : Int32)), iv cp, iv 3, iv at', rv b66] [(.int 8), (.long p4), (.int 1), (.ref b66)]))
    refine Goes.on (fun t k => XS.lshr X69.here hx rfl (hb hby at_128) rfl k) ?_
    show Goes p e below QQ (T69.setTop (mkF m 129 #[iv p1, iv p2, iv p3, .val (.long p4), .second, iv (p1 &&& (3 : Int32)), iv (p2 &&& (2147483647 : Int32)), iv cp, iv 3, iv at', rv b66] [(.long (p4 >>> ((8 : Int32) &&& 0x3f).toInt64)), (.int 1), (.ref b66)]))
    refine Goes.on (fun t k => XS.l2i X69.here hx rfl (hb hby at_129) rfl k) ?_
    show Goes p e below QQ (T69.setTop (mkF m 130 #[iv p1, iv p2, iv p3, .val (.long p4), .second, iv (p1 &&& (3 : Int32)), iv (p2 &&& (2147483647 : Int32)), iv cp, iv 3, iv at', rv b66] [(.int (p4 >>> ((8 : Int32) &&& 0x3f).toInt64).toInt32), (.int 1), (.ref b66)]))
    refine Goes.on (fun t k => XS.i2b X69.here hx rfl (hb hby at_130) rfl k) ?_
    show Goes p e below QQ (T69.setTop (mkF m 131 #[iv p1, iv p2, iv p3, .val (.long p4), .second, iv (p1 &&& (3 : Int32)), iv (p2 &&& (2147483647 : Int32)), iv cp, iv 3, iv at', rv b66] [(.int (p4 >>> ((8 : Int32) &&& 0x3f).toInt64).toInt32.toInt8.toInt32), (.int 1), (.ref b66)]))
    obtain ⟨cl71, Ar71, aq71, aS71, aN71, aH71, aG71⟩ := id V_70
    have hin71 := inb_of (j := (1 : Int32)) aS71 ⟨by decide, by decide⟩
    obtain ⟨T72, h72, X72, e72, W72, st72⟩ := stB X69 hx hZ e69 Ar71 (j := (1 : Int32)) hin71 (g := (mkF m 131 #[iv p1, iv p2, iv p3, .val (.long p4), .second, iv (p1 &&& (3 : Int32)), iv (p2 &&& (2147483647 : Int32)), iv cp, iv 3, iv at', rv b66] [(.int (p4 >>> ((8 : Int32) &&& 0x3f).toInt64).toInt32.toInt8.toInt32), (.int 1), (.ref b66)])) rfl rfl (hb hby at_131)
    have K72 := K69.wr W72 (Or.inr sz_b66)
    have N72 := Fr.snoc X72 N69 g_b66
    have V_73 : Arv Z h72 b66 k66 .byte (8 : Int32) [(.int p4.toInt32.toInt8.toInt32.toInt8.toInt32), (.int (p4 >>> ((8 : Int32) &&& 0x3f).toInt64).toInt32.toInt8.toInt32.toInt8.toInt32), (.int 0), (.int 0), (.int 0), (.int 0), (.int 0), (.int 0)] (.int 0) := Arv.set Ar71 aq71 aS71 aN71 aH71 aG71 (fits_nar_byte _) W72 1 rfl (Nat.le_of_ble_eq_true rfl)
    refine Goes.on (fun t k => st72 t k) ?_
    show Goes p e below QQ (T72.setTop (mkF m 132 #[iv p1, iv p2, iv p3, .val (.long p4), .second, iv (p1 &&& (3 : Int32)), iv (p2 &&& (2147483647 : Int32)), iv cp, iv 3, iv at', rv b66] []))
    refine Goes.on (fun t k => XS.aload X72.here hx rfl (hb hby at_132) rfl rfl k) ?_
    show Goes p e below QQ (T72.setTop (mkF m 134 #[iv p1, iv p2, iv p3, .val (.long p4), .second, iv (p1 &&& (3 : Int32)), iv (p2 &&& (2147483647 : Int32)), iv cp, iv 3, iv at', rv b66] [(.ref b66)]))
    refine Goes.on (fun t k => XS.iconst X72.here hx rfl (hb hby at_134) k) ?_
    show Goes p e below QQ (T72.setTop (mkF m 135 #[iv p1, iv p2, iv p3, .val (.long p4), .second, iv (p1 &&& (3 : Int32)), iv (p2 &&& (2147483647 : Int32)), iv cp, iv 3, iv at', rv b66] [(.int 2), (.ref b66)]))
    refine Goes.on (fun t k => XS.lloadN X72.here hx rfl (hb hby at_135) rfl k) ?_
    show Goes p e below QQ (T72.setTop (mkF m 136 #[iv p1, iv p2, iv p3, .val (.long p4), .second, iv (p1 &&& (3 : Int32)), iv (p2 &&& (2147483647 : Int32)), iv cp, iv 3, iv at', rv b66] [(.long p4), (.int 2), (.ref b66)]))
    refine Goes.on (fun t k => XS.bipush X72.here hx rfl (hb hby at_136) k) ?_
    show Goes p e below QQ (T72.setTop (mkF m 138 #[iv p1, iv p2, iv p3, .val (.long p4), .second, iv (p1 &&& (3 : Int32)), iv (p2 &&& (2147483647 : Int32)), iv cp, iv 3, iv at', rv b66] [(.int 16), (.long p4), (.int 2), (.ref b66)]))
    refine Goes.on (fun t k => XS.lshr X72.here hx rfl (hb hby at_138) rfl k) ?_
    show Goes p e below QQ (T72.setTop (mkF m 139 #[iv p1, iv p2, iv p3, .val (.long p4), .second, iv (p1 &&& (3 : Int32)), iv (p2 &&& (2147483647 : Int32)), iv cp, iv 3, iv at', rv b66] [(.long (p4 >>> ((16 : Int32) &&& 0x3f).toInt64)), (.int 2), (.ref b66)]))
    refine Goes.on (fun t k => XS.l2i X72.here hx rfl (hb hby at_139) rfl k) ?_
    show Goes p e below QQ (T72.setTop (mkF m 140 #[iv p1, iv p2, iv p3, .val (.long p4), .second, iv (p1 &&& (3 : Int32)), iv (p2 &&& (2147483647 : Int32)), iv cp, iv 3, iv at', rv b66] [(.int (p4 >>> ((16 : Int32) &&& 0x3f).toInt64).toInt32), (.int 2), (.ref b66)]))
    refine Goes.on (fun t k => XS.i2b X72.here hx rfl (hb hby at_140) rfl k) ?_
    show Goes p e below QQ (T72.setTop (mkF m 141 #[iv p1, iv p2, iv p3, .val (.long p4), .second, iv (p1 &&& (3 : Int32)), iv (p2 &&& (2147483647 : Int32)), iv cp, iv 3, iv at', rv b66] [(.int (p4 >>> ((16 : Int32) &&& 0x3f).toInt64).toInt32.toInt8.toInt32), (.int 2), (.ref b66)]))
    obtain ⟨cl74, Ar74, aq74, aS74, aN74, aH74, aG74⟩ := id V_73
    have hin74 := inb_of (j := (2 : Int32)) aS74 ⟨by decide, by decide⟩
    obtain ⟨T75, h75, X75, e75, W75, st75⟩ := stB X72 hx hZ e72 Ar74 (j := (2 : Int32)) hin74 (g := (mkF m 141 #[iv p1, iv p2, iv p3, .val (.long p4), .second, iv (p1 &&& (3 : Int32)), iv (p2 &&& (2147483647 : Int32)), iv cp, iv 3, iv at', rv b66] [(.int (p4 >>> ((16 : Int32) &&& 0x3f).toInt64).toInt32.toInt8.toInt32), (.int 2), (.ref b66)])) rfl rfl (hb hby at_141)
    have K75 := K72.wr W75 (Or.inr sz_b66)
    have N75 := Fr.snoc X75 N72 g_b66
    have V_76 : Arv Z h75 b66 k66 .byte (8 : Int32) [(.int p4.toInt32.toInt8.toInt32.toInt8.toInt32), (.int (p4 >>> ((8 : Int32) &&& 0x3f).toInt64).toInt32.toInt8.toInt32.toInt8.toInt32), (.int (p4 >>> ((16 : Int32) &&& 0x3f).toInt64).toInt32.toInt8.toInt32.toInt8.toInt32), (.int 0), (.int 0), (.int 0), (.int 0), (.int 0)] (.int 0) := Arv.set Ar74 aq74 aS74 aN74 aH74 aG74 (fits_nar_byte _) W75 2 rfl (Nat.le_of_ble_eq_true rfl)
    refine Goes.on (fun t k => st75 t k) ?_
    show Goes p e below QQ (T75.setTop (mkF m 142 #[iv p1, iv p2, iv p3, .val (.long p4), .second, iv (p1 &&& (3 : Int32)), iv (p2 &&& (2147483647 : Int32)), iv cp, iv 3, iv at', rv b66] []))
    refine Goes.on (fun t k => XS.aload X75.here hx rfl (hb hby at_142) rfl rfl k) ?_
    show Goes p e below QQ (T75.setTop (mkF m 144 #[iv p1, iv p2, iv p3, .val (.long p4), .second, iv (p1 &&& (3 : Int32)), iv (p2 &&& (2147483647 : Int32)), iv cp, iv 3, iv at', rv b66] [(.ref b66)]))
    refine Goes.on (fun t k => XS.iconst X75.here hx rfl (hb hby at_144) k) ?_
    show Goes p e below QQ (T75.setTop (mkF m 145 #[iv p1, iv p2, iv p3, .val (.long p4), .second, iv (p1 &&& (3 : Int32)), iv (p2 &&& (2147483647 : Int32)), iv cp, iv 3, iv at', rv b66] [(.int 3), (.ref b66)]))
    refine Goes.on (fun t k => XS.lloadN X75.here hx rfl (hb hby at_145) rfl k) ?_
    show Goes p e below QQ (T75.setTop (mkF m 146 #[iv p1, iv p2, iv p3, .val (.long p4), .second, iv (p1 &&& (3 : Int32)), iv (p2 &&& (2147483647 : Int32)), iv cp, iv 3, iv at', rv b66] [(.long p4), (.int 3), (.ref b66)]))
    refine Goes.on (fun t k => XS.bipush X75.here hx rfl (hb hby at_146) k) ?_
    show Goes p e below QQ (T75.setTop (mkF m 148 #[iv p1, iv p2, iv p3, .val (.long p4), .second, iv (p1 &&& (3 : Int32)), iv (p2 &&& (2147483647 : Int32)), iv cp, iv 3, iv at', rv b66] [(.int 24), (.long p4), (.int 3), (.ref b66)]))
    refine Goes.on (fun t k => XS.lshr X75.here hx rfl (hb hby at_148) rfl k) ?_
    show Goes p e below QQ (T75.setTop (mkF m 149 #[iv p1, iv p2, iv p3, .val (.long p4), .second, iv (p1 &&& (3 : Int32)), iv (p2 &&& (2147483647 : Int32)), iv cp, iv 3, iv at', rv b66] [(.long (p4 >>> ((24 : Int32) &&& 0x3f).toInt64)), (.int 3), (.ref b66)]))
    refine Goes.on (fun t k => XS.l2i X75.here hx rfl (hb hby at_149) rfl k) ?_
    show Goes p e below QQ (T75.setTop (mkF m 150 #[iv p1, iv p2, iv p3, .val (.long p4), .second, iv (p1 &&& (3 : Int32)), iv (p2 &&& (2147483647 : Int32)), iv cp, iv 3, iv at', rv b66] [(.int (p4 >>> ((24 : Int32) &&& 0x3f).toInt64).toInt32), (.int 3), (.ref b66)]))
    refine Goes.on (fun t k => XS.i2b X75.here hx rfl (hb hby at_150) rfl k) ?_
    show Goes p e below QQ (T75.setTop (mkF m 151 #[iv p1, iv p2, iv p3, .val (.long p4), .second, iv (p1 &&& (3 : Int32)), iv (p2 &&& (2147483647 : Int32)), iv cp, iv 3, iv at', rv b66] [(.int (p4 >>> ((24 : Int32) &&& 0x3f).toInt64).toInt32.toInt8.toInt32), (.int 3), (.ref b66)]))
    obtain ⟨cl77, Ar77, aq77, aS77, aN77, aH77, aG77⟩ := id V_76
    have hin77 := inb_of (j := (3 : Int32)) aS77 ⟨by decide, by decide⟩
    obtain ⟨T78, h78, X78, e78, W78, st78⟩ := stB X75 hx hZ e75 Ar77 (j := (3 : Int32)) hin77 (g := (mkF m 151 #[iv p1, iv p2, iv p3, .val (.long p4), .second, iv (p1 &&& (3 : Int32)), iv (p2 &&& (2147483647 : Int32)), iv cp, iv 3, iv at', rv b66] [(.int (p4 >>> ((24 : Int32) &&& 0x3f).toInt64).toInt32.toInt8.toInt32), (.int 3), (.ref b66)])) rfl rfl (hb hby at_151)
    have K78 := K75.wr W78 (Or.inr sz_b66)
    have N78 := Fr.snoc X78 N75 g_b66
    have V_79 : Arv Z h78 b66 k66 .byte (8 : Int32) [(.int p4.toInt32.toInt8.toInt32.toInt8.toInt32), (.int (p4 >>> ((8 : Int32) &&& 0x3f).toInt64).toInt32.toInt8.toInt32.toInt8.toInt32), (.int (p4 >>> ((16 : Int32) &&& 0x3f).toInt64).toInt32.toInt8.toInt32.toInt8.toInt32), (.int (p4 >>> ((24 : Int32) &&& 0x3f).toInt64).toInt32.toInt8.toInt32.toInt8.toInt32), (.int 0), (.int 0), (.int 0), (.int 0)] (.int 0) := Arv.set Ar77 aq77 aS77 aN77 aH77 aG77 (fits_nar_byte _) W78 3 rfl (Nat.le_of_ble_eq_true rfl)
    refine Goes.on (fun t k => st78 t k) ?_
    show Goes p e below QQ (T78.setTop (mkF m 152 #[iv p1, iv p2, iv p3, .val (.long p4), .second, iv (p1 &&& (3 : Int32)), iv (p2 &&& (2147483647 : Int32)), iv cp, iv 3, iv at', rv b66] []))
    refine Goes.on (fun t k => XS.aload X78.here hx rfl (hb hby at_152) rfl rfl k) ?_
    show Goes p e below QQ (T78.setTop (mkF m 154 #[iv p1, iv p2, iv p3, .val (.long p4), .second, iv (p1 &&& (3 : Int32)), iv (p2 &&& (2147483647 : Int32)), iv cp, iv 3, iv at', rv b66] [(.ref b66)]))
    refine Goes.on (fun t k => XS.iconst X78.here hx rfl (hb hby at_154) k) ?_
    show Goes p e below QQ (T78.setTop (mkF m 155 #[iv p1, iv p2, iv p3, .val (.long p4), .second, iv (p1 &&& (3 : Int32)), iv (p2 &&& (2147483647 : Int32)), iv cp, iv 3, iv at', rv b66] [(.int 4), (.ref b66)]))
    refine Goes.on (fun t k => XS.lloadN X78.here hx rfl (hb hby at_155) rfl k) ?_
    show Goes p e below QQ (T78.setTop (mkF m 156 #[iv p1, iv p2, iv p3, .val (.long p4), .second, iv (p1 &&& (3 : Int32)), iv (p2 &&& (2147483647 : Int32)), iv cp, iv 3, iv at', rv b66] [(.long p4), (.int 4), (.ref b66)]))
    refine Goes.on (fun t k => XS.bipush X78.here hx rfl (hb hby at_156) k) ?_
    show Goes p e below QQ (T78.setTop (mkF m 158 #[iv p1, iv p2, iv p3, .val (.long p4), .second, iv (p1 &&& (3 : Int32)), iv (p2 &&& (2147483647 : Int32)), iv cp, iv 3, iv at', rv b66] [(.int 32), (.long p4), (.int 4), (.ref b66)]))
    refine Goes.on (fun t k => XS.lshr X78.here hx rfl (hb hby at_158) rfl k) ?_
    show Goes p e below QQ (T78.setTop (mkF m 159 #[iv p1, iv p2, iv p3, .val (.long p4), .second, iv (p1 &&& (3 : Int32)), iv (p2 &&& (2147483647 : Int32)), iv cp, iv 3, iv at', rv b66] [(.long (p4 >>> ((32 : Int32) &&& 0x3f).toInt64)), (.int 4), (.ref b66)]))
    refine Goes.on (fun t k => XS.l2i X78.here hx rfl (hb hby at_159) rfl k) ?_
    show Goes p e below QQ (T78.setTop (mkF m 160 #[iv p1, iv p2, iv p3, .val (.long p4), .second, iv (p1 &&& (3 : Int32)), iv (p2 &&& (2147483647 : Int32)), iv cp, iv 3, iv at', rv b66] [(.int (p4 >>> ((32 : Int32) &&& 0x3f).toInt64).toInt32), (.int 4), (.ref b66)]))
    refine Goes.on (fun t k => XS.i2b X78.here hx rfl (hb hby at_160) rfl k) ?_
    show Goes p e below QQ (T78.setTop (mkF m 161 #[iv p1, iv p2, iv p3, .val (.long p4), .second, iv (p1 &&& (3 : Int32)), iv (p2 &&& (2147483647 : Int32)), iv cp, iv 3, iv at', rv b66] [(.int (p4 >>> ((32 : Int32) &&& 0x3f).toInt64).toInt32.toInt8.toInt32), (.int 4), (.ref b66)]))
    obtain ⟨cl80, Ar80, aq80, aS80, aN80, aH80, aG80⟩ := id V_79
    have hin80 := inb_of (j := (4 : Int32)) aS80 ⟨by decide, by decide⟩
    obtain ⟨T81, h81, X81, e81, W81, st81⟩ := stB X78 hx hZ e78 Ar80 (j := (4 : Int32)) hin80 (g := (mkF m 161 #[iv p1, iv p2, iv p3, .val (.long p4), .second, iv (p1 &&& (3 : Int32)), iv (p2 &&& (2147483647 : Int32)), iv cp, iv 3, iv at', rv b66] [(.int (p4 >>> ((32 : Int32) &&& 0x3f).toInt64).toInt32.toInt8.toInt32), (.int 4), (.ref b66)])) rfl rfl (hb hby at_161)
    have K81 := K78.wr W81 (Or.inr sz_b66)
    have N81 := Fr.snoc X81 N78 g_b66
    have V_82 : Arv Z h81 b66 k66 .byte (8 : Int32) [(.int p4.toInt32.toInt8.toInt32.toInt8.toInt32), (.int (p4 >>> ((8 : Int32) &&& 0x3f).toInt64).toInt32.toInt8.toInt32.toInt8.toInt32), (.int (p4 >>> ((16 : Int32) &&& 0x3f).toInt64).toInt32.toInt8.toInt32.toInt8.toInt32), (.int (p4 >>> ((24 : Int32) &&& 0x3f).toInt64).toInt32.toInt8.toInt32.toInt8.toInt32), (.int (p4 >>> ((32 : Int32) &&& 0x3f).toInt64).toInt32.toInt8.toInt32.toInt8.toInt32), (.int 0), (.int 0), (.int 0)] (.int 0) := Arv.set Ar80 aq80 aS80 aN80 aH80 aG80 (fits_nar_byte _) W81 4 rfl (Nat.le_of_ble_eq_true rfl)
    refine Goes.on (fun t k => st81 t k) ?_
    show Goes p e below QQ (T81.setTop (mkF m 162 #[iv p1, iv p2, iv p3, .val (.long p4), .second, iv (p1 &&& (3 : Int32)), iv (p2 &&& (2147483647 : Int32)), iv cp, iv 3, iv at', rv b66] []))
    refine Goes.on (fun t k => XS.aload X81.here hx rfl (hb hby at_162) rfl rfl k) ?_
    show Goes p e below QQ (T81.setTop (mkF m 164 #[iv p1, iv p2, iv p3, .val (.long p4), .second, iv (p1 &&& (3 : Int32)), iv (p2 &&& (2147483647 : Int32)), iv cp, iv 3, iv at', rv b66] [(.ref b66)]))
    refine Goes.on (fun t k => XS.iconst X81.here hx rfl (hb hby at_164) k) ?_
    show Goes p e below QQ (T81.setTop (mkF m 165 #[iv p1, iv p2, iv p3, .val (.long p4), .second, iv (p1 &&& (3 : Int32)), iv (p2 &&& (2147483647 : Int32)), iv cp, iv 3, iv at', rv b66] [(.int 5), (.ref b66)]))
    refine Goes.on (fun t k => XS.lloadN X81.here hx rfl (hb hby at_165) rfl k) ?_
    show Goes p e below QQ (T81.setTop (mkF m 166 #[iv p1, iv p2, iv p3, .val (.long p4), .second, iv (p1 &&& (3 : Int32)), iv (p2 &&& (2147483647 : Int32)), iv cp, iv 3, iv at', rv b66] [(.long p4), (.int 5), (.ref b66)]))
    refine Goes.on (fun t k => XS.bipush X81.here hx rfl (hb hby at_166) k) ?_
    show Goes p e below QQ (T81.setTop (mkF m 168 #[iv p1, iv p2, iv p3, .val (.long p4), .second, iv (p1 &&& (3 : Int32)), iv (p2 &&& (2147483647 : Int32)), iv cp, iv 3, iv at', rv b66] [(.int 40), (.long p4), (.int 5), (.ref b66)]))
    refine Goes.on (fun t k => XS.lshr X81.here hx rfl (hb hby at_168) rfl k) ?_
    show Goes p e below QQ (T81.setTop (mkF m 169 #[iv p1, iv p2, iv p3, .val (.long p4), .second, iv (p1 &&& (3 : Int32)), iv (p2 &&& (2147483647 : Int32)), iv cp, iv 3, iv at', rv b66] [(.long (p4 >>> ((40 : Int32) &&& 0x3f).toInt64)), (.int 5), (.ref b66)]))
    refine Goes.on (fun t k => XS.l2i X81.here hx rfl (hb hby at_169) rfl k) ?_
    show Goes p e below QQ (T81.setTop (mkF m 170 #[iv p1, iv p2, iv p3, .val (.long p4), .second, iv (p1 &&& (3 : Int32)), iv (p2 &&& (2147483647 : Int32)), iv cp, iv 3, iv at', rv b66] [(.int (p4 >>> ((40 : Int32) &&& 0x3f).toInt64).toInt32), (.int 5), (.ref b66)]))
    refine Goes.on (fun t k => XS.i2b X81.here hx rfl (hb hby at_170) rfl k) ?_
    show Goes p e below QQ (T81.setTop (mkF m 171 #[iv p1, iv p2, iv p3, .val (.long p4), .second, iv (p1 &&& (3 : Int32)), iv (p2 &&& (2147483647 : Int32)), iv cp, iv 3, iv at', rv b66] [(.int (p4 >>> ((40 : Int32) &&& 0x3f).toInt64).toInt32.toInt8.toInt32), (.int 5), (.ref b66)]))
    obtain ⟨cl83, Ar83, aq83, aS83, aN83, aH83, aG83⟩ := id V_82
    have hin83 := inb_of (j := (5 : Int32)) aS83 ⟨by decide, by decide⟩
    obtain ⟨T84, h84, X84, e84, W84, st84⟩ := stB X81 hx hZ e81 Ar83 (j := (5 : Int32)) hin83 (g := (mkF m 171 #[iv p1, iv p2, iv p3, .val (.long p4), .second, iv (p1 &&& (3 : Int32)), iv (p2 &&& (2147483647 : Int32)), iv cp, iv 3, iv at', rv b66] [(.int (p4 >>> ((40 : Int32) &&& 0x3f).toInt64).toInt32.toInt8.toInt32), (.int 5), (.ref b66)])) rfl rfl (hb hby at_171)
    have K84 := K81.wr W84 (Or.inr sz_b66)
    have N84 := Fr.snoc X84 N81 g_b66
    have V_85 : Arv Z h84 b66 k66 .byte (8 : Int32) [(.int p4.toInt32.toInt8.toInt32.toInt8.toInt32), (.int (p4 >>> ((8 : Int32) &&& 0x3f).toInt64).toInt32.toInt8.toInt32.toInt8.toInt32), (.int (p4 >>> ((16 : Int32) &&& 0x3f).toInt64).toInt32.toInt8.toInt32.toInt8.toInt32), (.int (p4 >>> ((24 : Int32) &&& 0x3f).toInt64).toInt32.toInt8.toInt32.toInt8.toInt32), (.int (p4 >>> ((32 : Int32) &&& 0x3f).toInt64).toInt32.toInt8.toInt32.toInt8.toInt32), (.int (p4 >>> ((40 : Int32) &&& 0x3f).toInt64).toInt32.toInt8.toInt32.toInt8.toInt32), (.int 0), (.int 0)] (.int 0) := Arv.set Ar83 aq83 aS83 aN83 aH83 aG83 (fits_nar_byte _) W84 5 rfl (Nat.le_of_ble_eq_true rfl)
    refine Goes.on (fun t k => st84 t k) ?_
    show Goes p e below QQ (T84.setTop (mkF m 172 #[iv p1, iv p2, iv p3, .val (.long p4), .second, iv (p1 &&& (3 : Int32)), iv (p2 &&& (2147483647 : Int32)), iv cp, iv 3, iv at', rv b66] []))
    refine Goes.on (fun t k => XS.aload X84.here hx rfl (hb hby at_172) rfl rfl k) ?_
    show Goes p e below QQ (T84.setTop (mkF m 174 #[iv p1, iv p2, iv p3, .val (.long p4), .second, iv (p1 &&& (3 : Int32)), iv (p2 &&& (2147483647 : Int32)), iv cp, iv 3, iv at', rv b66] [(.ref b66)]))
    refine Goes.on (fun t k => XS.bipush X84.here hx rfl (hb hby at_174) k) ?_
    show Goes p e below QQ (T84.setTop (mkF m 176 #[iv p1, iv p2, iv p3, .val (.long p4), .second, iv (p1 &&& (3 : Int32)), iv (p2 &&& (2147483647 : Int32)), iv cp, iv 3, iv at', rv b66] [(.int 6), (.ref b66)]))
    refine Goes.on (fun t k => XS.lloadN X84.here hx rfl (hb hby at_176) rfl k) ?_
    show Goes p e below QQ (T84.setTop (mkF m 177 #[iv p1, iv p2, iv p3, .val (.long p4), .second, iv (p1 &&& (3 : Int32)), iv (p2 &&& (2147483647 : Int32)), iv cp, iv 3, iv at', rv b66] [(.long p4), (.int 6), (.ref b66)]))
    refine Goes.on (fun t k => XS.bipush X84.here hx rfl (hb hby at_177) k) ?_
    show Goes p e below QQ (T84.setTop (mkF m 179 #[iv p1, iv p2, iv p3, .val (.long p4), .second, iv (p1 &&& (3 : Int32)), iv (p2 &&& (2147483647 : Int32)), iv cp, iv 3, iv at', rv b66] [(.int 48), (.long p4), (.int 6), (.ref b66)]))
    refine Goes.on (fun t k => XS.lshr X84.here hx rfl (hb hby at_179) rfl k) ?_
    show Goes p e below QQ (T84.setTop (mkF m 180 #[iv p1, iv p2, iv p3, .val (.long p4), .second, iv (p1 &&& (3 : Int32)), iv (p2 &&& (2147483647 : Int32)), iv cp, iv 3, iv at', rv b66] [(.long (p4 >>> ((48 : Int32) &&& 0x3f).toInt64)), (.int 6), (.ref b66)]))
    refine Goes.on (fun t k => XS.l2i X84.here hx rfl (hb hby at_180) rfl k) ?_
    show Goes p e below QQ (T84.setTop (mkF m 181 #[iv p1, iv p2, iv p3, .val (.long p4), .second, iv (p1 &&& (3 : Int32)), iv (p2 &&& (2147483647 : Int32)), iv cp, iv 3, iv at', rv b66] [(.int (p4 >>> ((48 : Int32) &&& 0x3f).toInt64).toInt32), (.int 6), (.ref b66)]))
    refine Goes.on (fun t k => XS.i2b X84.here hx rfl (hb hby at_181) rfl k) ?_
    show Goes p e below QQ (T84.setTop (mkF m 182 #[iv p1, iv p2, iv p3, .val (.long p4), .second, iv (p1 &&& (3 : Int32)), iv (p2 &&& (2147483647 : Int32)), iv cp, iv 3, iv at', rv b66] [(.int (p4 >>> ((48 : Int32) &&& 0x3f).toInt64).toInt32.toInt8.toInt32), (.int 6), (.ref b66)]))
    obtain ⟨cl86, Ar86, aq86, aS86, aN86, aH86, aG86⟩ := id V_85
    have hin86 := inb_of (j := (6 : Int32)) aS86 ⟨by decide, by decide⟩
    obtain ⟨T87, h87, X87, e87, W87, st87⟩ := stB X84 hx hZ e84 Ar86 (j := (6 : Int32)) hin86 (g := (mkF m 182 #[iv p1, iv p2, iv p3, .val (.long p4), .second, iv (p1 &&& (3 : Int32)), iv (p2 &&& (2147483647 : Int32)), iv cp, iv 3, iv at', rv b66] [(.int (p4 >>> ((48 : Int32) &&& 0x3f).toInt64).toInt32.toInt8.toInt32), (.int 6), (.ref b66)])) rfl rfl (hb hby at_182)
    have K87 := K84.wr W87 (Or.inr sz_b66)
    have N87 := Fr.snoc X87 N84 g_b66
    have V_88 : Arv Z h87 b66 k66 .byte (8 : Int32) [(.int p4.toInt32.toInt8.toInt32.toInt8.toInt32), (.int (p4 >>> ((8 : Int32) &&& 0x3f).toInt64).toInt32.toInt8.toInt32.toInt8.toInt32), (.int (p4 >>> ((16 : Int32) &&& 0x3f).toInt64).toInt32.toInt8.toInt32.toInt8.toInt32), (.int (p4 >>> ((24 : Int32) &&& 0x3f).toInt64).toInt32.toInt8.toInt32.toInt8.toInt32), (.int (p4 >>> ((32 : Int32) &&& 0x3f).toInt64).toInt32.toInt8.toInt32.toInt8.toInt32), (.int (p4 >>> ((40 : Int32) &&& 0x3f).toInt64).toInt32.toInt8.toInt32.toInt8.toInt32), (.int (p4 >>> ((48 : Int32) &&& 0x3f).toInt64).toInt32.toInt8.toInt32.toInt8.toInt32), (.int 0)] (.int 0) := Arv.set Ar86 aq86 aS86 aN86 aH86 aG86 (fits_nar_byte _) W87 6 rfl (Nat.le_of_ble_eq_true rfl)
    refine Goes.on (fun t k => st87 t k) ?_
    show Goes p e below QQ (T87.setTop (mkF m 183 #[iv p1, iv p2, iv p3, .val (.long p4), .second, iv (p1 &&& (3 : Int32)), iv (p2 &&& (2147483647 : Int32)), iv cp, iv 3, iv at', rv b66] []))
    refine Goes.on (fun t k => XS.aload X87.here hx rfl (hb hby at_183) rfl rfl k) ?_
    show Goes p e below QQ (T87.setTop (mkF m 185 #[iv p1, iv p2, iv p3, .val (.long p4), .second, iv (p1 &&& (3 : Int32)), iv (p2 &&& (2147483647 : Int32)), iv cp, iv 3, iv at', rv b66] [(.ref b66)]))
    refine Goes.on (fun t k => XS.bipush X87.here hx rfl (hb hby at_185) k) ?_
    show Goes p e below QQ (T87.setTop (mkF m 187 #[iv p1, iv p2, iv p3, .val (.long p4), .second, iv (p1 &&& (3 : Int32)), iv (p2 &&& (2147483647 : Int32)), iv cp, iv 3, iv at', rv b66] [(.int 7), (.ref b66)]))
    refine Goes.on (fun t k => XS.lloadN X87.here hx rfl (hb hby at_187) rfl k) ?_
    show Goes p e below QQ (T87.setTop (mkF m 188 #[iv p1, iv p2, iv p3, .val (.long p4), .second, iv (p1 &&& (3 : Int32)), iv (p2 &&& (2147483647 : Int32)), iv cp, iv 3, iv at', rv b66] [(.long p4), (.int 7), (.ref b66)]))
    refine Goes.on (fun t k => XS.bipush X87.here hx rfl (hb hby at_188) k) ?_
    show Goes p e below QQ (T87.setTop (mkF m 190 #[iv p1, iv p2, iv p3, .val (.long p4), .second, iv (p1 &&& (3 : Int32)), iv (p2 &&& (2147483647 : Int32)), iv cp, iv 3, iv at', rv b66] [(.int 56), (.long p4), (.int 7), (.ref b66)]))
    refine Goes.on (fun t k => XS.lshr X87.here hx rfl (hb hby at_190) rfl k) ?_
    show Goes p e below QQ (T87.setTop (mkF m 191 #[iv p1, iv p2, iv p3, .val (.long p4), .second, iv (p1 &&& (3 : Int32)), iv (p2 &&& (2147483647 : Int32)), iv cp, iv 3, iv at', rv b66] [(.long (p4 >>> ((56 : Int32) &&& 0x3f).toInt64)), (.int 7), (.ref b66)]))
    refine Goes.on (fun t k => XS.l2i X87.here hx rfl (hb hby at_191) rfl k) ?_
    show Goes p e below QQ (T87.setTop (mkF m 192 #[iv p1, iv p2, iv p3, .val (.long p4), .second, iv (p1 &&& (3 : Int32)), iv (p2 &&& (2147483647 : Int32)), iv cp, iv 3, iv at', rv b66] [(.int (p4 >>> ((56 : Int32) &&& 0x3f).toInt64).toInt32), (.int 7), (.ref b66)]))
    refine Goes.on (fun t k => XS.i2b X87.here hx rfl (hb hby at_192) rfl k) ?_
    show Goes p e below QQ (T87.setTop (mkF m 193 #[iv p1, iv p2, iv p3, .val (.long p4), .second, iv (p1 &&& (3 : Int32)), iv (p2 &&& (2147483647 : Int32)), iv cp, iv 3, iv at', rv b66] [(.int (p4 >>> ((56 : Int32) &&& 0x3f).toInt64).toInt32.toInt8.toInt32), (.int 7), (.ref b66)]))
    obtain ⟨cl89, Ar89, aq89, aS89, aN89, aH89, aG89⟩ := id V_88
    have hin89 := inb_of (j := (7 : Int32)) aS89 ⟨by decide, by decide⟩
    obtain ⟨T90, h90, X90, e90, W90, st90⟩ := stB X87 hx hZ e87 Ar89 (j := (7 : Int32)) hin89 (g := (mkF m 193 #[iv p1, iv p2, iv p3, .val (.long p4), .second, iv (p1 &&& (3 : Int32)), iv (p2 &&& (2147483647 : Int32)), iv cp, iv 3, iv at', rv b66] [(.int (p4 >>> ((56 : Int32) &&& 0x3f).toInt64).toInt32.toInt8.toInt32), (.int 7), (.ref b66)])) rfl rfl (hb hby at_193)
    have K90 := K87.wr W90 (Or.inr sz_b66)
    have N90 := Fr.snoc X90 N87 g_b66
    have V_91 : Arv Z h90 b66 k66 .byte (8 : Int32) [(.int p4.toInt32.toInt8.toInt32.toInt8.toInt32), (.int (p4 >>> ((8 : Int32) &&& 0x3f).toInt64).toInt32.toInt8.toInt32.toInt8.toInt32), (.int (p4 >>> ((16 : Int32) &&& 0x3f).toInt64).toInt32.toInt8.toInt32.toInt8.toInt32), (.int (p4 >>> ((24 : Int32) &&& 0x3f).toInt64).toInt32.toInt8.toInt32.toInt8.toInt32), (.int (p4 >>> ((32 : Int32) &&& 0x3f).toInt64).toInt32.toInt8.toInt32.toInt8.toInt32), (.int (p4 >>> ((40 : Int32) &&& 0x3f).toInt64).toInt32.toInt8.toInt32.toInt8.toInt32), (.int (p4 >>> ((48 : Int32) &&& 0x3f).toInt64).toInt32.toInt8.toInt32.toInt8.toInt32), (.int (p4 >>> ((56 : Int32) &&& 0x3f).toInt64).toInt32.toInt8.toInt32.toInt8.toInt32)] (.int 0) := Arv.set Ar89 aq89 aS89 aN89 aH89 aG89 (fits_nar_byte _) W90 7 rfl (Nat.le_of_ble_eq_true rfl)
    refine Goes.on (fun t k => st90 t k) ?_
    show Goes p e below QQ (T90.setTop (mkF m 194 #[iv p1, iv p2, iv p3, .val (.long p4), .second, iv (p1 &&& (3 : Int32)), iv (p2 &&& (2147483647 : Int32)), iv cp, iv 3, iv at', rv b66] []))
    obtain ⟨vs0, hvs0⟩ : ∃ z : List Value, z = [(.int p4.toInt32.toInt8.toInt32.toInt8.toInt32), (.int (p4 >>> ((8 : Int32) &&& 0x3f).toInt64).toInt32.toInt8.toInt32.toInt8.toInt32), (.int (p4 >>> ((16 : Int32) &&& 0x3f).toInt64).toInt32.toInt8.toInt32.toInt8.toInt32), (.int (p4 >>> ((24 : Int32) &&& 0x3f).toInt64).toInt32.toInt8.toInt32.toInt8.toInt32), (.int (p4 >>> ((32 : Int32) &&& 0x3f).toInt64).toInt32.toInt8.toInt32.toInt8.toInt32), (.int (p4 >>> ((40 : Int32) &&& 0x3f).toInt64).toInt32.toInt8.toInt32.toInt8.toInt32), (.int (p4 >>> ((48 : Int32) &&& 0x3f).toInt64).toInt32.toInt8.toInt32.toInt8.toInt32), (.int (p4 >>> ((56 : Int32) &&& 0x3f).toInt64).toInt32.toInt8.toInt32.toInt8.toInt32)] := ⟨_, rfl⟩
    have V_92 := V_91
    rw [← hvs0] at V_92
    show Goes p e below QQ (T90.setTop (mkF m 194 #[iv p1, iv p2, iv p3, .val (.long p4), .second, iv (p1 &&& (3 : Int32)), iv (p2 &&& (2147483647 : Int32)), iv cp, iv 3, iv at', rv b66] []))
    refine Goes.on (fun t k => XS.iload X90.here hx rfl (hb hby at_194) rfl k) ?_
    show Goes p e below QQ (T90.setTop (mkF m 196 #[iv p1, iv p2, iv p3, .val (.long p4), .second, iv (p1 &&& (3 : Int32)), iv (p2 &&& (2147483647 : Int32)), iv cp, iv 3, iv at', rv b66] [(.int 3)]))
    refine Goes.on (fun t k => XS.iconst X90.here hx rfl (hb hby at_196) k) ?_
    show Goes p e below QQ (T90.setTop (mkF m 197 #[iv p1, iv p2, iv p3, .val (.long p4), .second, iv (p1 &&& (3 : Int32)), iv (p2 &&& (2147483647 : Int32)), iv cp, iv 3, iv at', rv b66] [(.int 1), (.int 3)]))
    refine Goes.on (fun t k => XS.icmpYes X90.here hx rfl (pc0 := 197) (pc' := 211) rfl (hb hby at_197) rfl (feq (by decide)).2 (by decide) (by decide) k) ?_
    show Goes p e below QQ (T90.setTop (mkF m 211 #[iv p1, iv p2, iv p3, .val (.long p4), .second, iv (p1 &&& (3 : Int32)), iv (p2 &&& (2147483647 : Int32)), iv cp, iv 3, iv at', rv b66] []))
    refine Goes.on (fun t k => XS.iload X90.here hx rfl (hb hby at_211) rfl k) ?_
    show Goes p e below QQ (T90.setTop (mkF m 213 #[iv p1, iv p2, iv p3, .val (.long p4), .second, iv (p1 &&& (3 : Int32)), iv (p2 &&& (2147483647 : Int32)), iv cp, iv 3, iv at', rv b66] [(.int 3)]))
    refine Goes.on (fun t k => XS.iconst X90.here hx rfl (hb hby at_213) k) ?_
    show Goes p e below QQ (T90.setTop (mkF m 214 #[iv p1, iv p2, iv p3, .val (.long p4), .second, iv (p1 &&& (3 : Int32)), iv (p2 &&& (2147483647 : Int32)), iv cp, iv 3, iv at', rv b66] [(.int 2), (.int 3)]))
    refine Goes.on (fun t k => XS.icmpYes X90.here hx rfl (pc0 := 214) (pc' := 252) rfl (hb hby at_214) rfl (feq (by decide)).2 (by decide) (by decide) k) ?_
    show Goes p e below QQ (T90.setTop (mkF m 252 #[iv p1, iv p2, iv p3, .val (.long p4), .second, iv (p1 &&& (3 : Int32)), iv (p2 &&& (2147483647 : Int32)), iv cp, iv 3, iv at', rv b66] []))
    refine Goes.on (fun t k => XS.iload X90.here hx rfl (hb hby at_252) rfl k) ?_
    show Goes p e below QQ (T90.setTop (mkF m 254 #[iv p1, iv p2, iv p3, .val (.long p4), .second, iv (p1 &&& (3 : Int32)), iv (p2 &&& (2147483647 : Int32)), iv cp, iv 3, iv at', rv b66] [(.int 3)]))
    refine Goes.on (fun t k => XS.iconst X90.here hx rfl (hb hby at_254) k) ?_
    show Goes p e below QQ (T90.setTop (mkF m 255 #[iv p1, iv p2, iv p3, .val (.long p4), .second, iv (p1 &&& (3 : Int32)), iv (p2 &&& (2147483647 : Int32)), iv cp, iv 3, iv at', rv b66] [(.int 3), (.int 3)]))
    refine Goes.on (fun t k => XS.icmpNo X90.here hx rfl (hb hby at_255) rfl (teq (by decide)).2 k) ?_
    show Goes p e below QQ (T90.setTop (mkF m 258 #[iv p1, iv p2, iv p3, .val (.long p4), .second, iv (p1 &&& (3 : Int32)), iv (p2 &&& (2147483647 : Int32)), iv cp, iv 3, iv at', rv b66] []))
    refine Goes.on (fun t k => XS.aload X90.here hx rfl (hb hby at_258) rfl rfl k) ?_
    show Goes p e below QQ (T90.setTop (mkF m 260 #[iv p1, iv p2, iv p3, .val (.long p4), .second, iv (p1 &&& (3 : Int32)), iv (p2 &&& (2147483647 : Int32)), iv cp, iv 3, iv at', rv b66] [(.ref b66)]))
    refine Goes.on (fun t k => XS.iload X90.here hx rfl (hb hby at_260) rfl k) ?_
    show Goes p e below QQ (T90.setTop (mkF m 262 #[iv p1, iv p2, iv p3, .val (.long p4), .second, iv (p1 &&& (3 : Int32)), iv (p2 &&& (2147483647 : Int32)), iv cp, iv 3, iv at', rv b66] [(.int at'), (.ref b66)]))
    refine Goes.on (fun t k => XS.sipush X90.here hx rfl (hb hby at_262) k) ?_
    show Goes p e below QQ (T90.setTop (mkF m 265 #[iv p1, iv p2, iv p3, .val (.long p4), .second, iv (p1 &&& (3 : Int32)), iv (p2 &&& (2147483647 : Int32)), iv cp, iv 3, iv at', rv b66] [(.int 224), (.int at'), (.ref b66)]))
    refine Goes.on (fun t k => XS.iload X90.here hx rfl (hb hby at_265) rfl k) ?_
    show Goes p e below QQ (T90.setTop (mkF m 267 #[iv p1, iv p2, iv p3, .val (.long p4), .second, iv (p1 &&& (3 : Int32)), iv (p2 &&& (2147483647 : Int32)), iv cp, iv 3, iv at', rv b66] [(.int cp), (.int 224), (.int at'), (.ref b66)]))
    refine Goes.on (fun t k => XS.bipush X90.here hx rfl (hb hby at_267) k) ?_
    show Goes p e below QQ (T90.setTop (mkF m 269 #[iv p1, iv p2, iv p3, .val (.long p4), .second, iv (p1 &&& (3 : Int32)), iv (p2 &&& (2147483647 : Int32)), iv cp, iv 3, iv at', rv b66] [(.int 12), (.int cp), (.int 224), (.int at'), (.ref b66)]))
    refine Goes.on (fun t k => XS.ishr X90.here hx rfl (hb hby at_269) rfl k) ?_
    show Goes p e below QQ (T90.setTop (mkF m 270 #[iv p1, iv p2, iv p3, .val (.long p4), .second, iv (p1 &&& (3 : Int32)), iv (p2 &&& (2147483647 : Int32)), iv cp, iv 3, iv at', rv b66] [(.int (cp >>> ((12 : Int32) &&& 31))), (.int 224), (.int at'), (.ref b66)]))
    refine Goes.on (fun t k => XS.ior X90.here hx rfl (hb hby at_270) rfl k) ?_
    show Goes p e below QQ (T90.setTop (mkF m 271 #[iv p1, iv p2, iv p3, .val (.long p4), .second, iv (p1 &&& (3 : Int32)), iv (p2 &&& (2147483647 : Int32)), iv cp, iv 3, iv at', rv b66] [(.int ((224 : Int32) ||| (cp >>> ((12 : Int32) &&& 31)))), (.int at'), (.ref b66)]))
    refine Goes.on (fun t k => XS.i2b X90.here hx rfl (hb hby at_271) rfl k) ?_
    show Goes p e below QQ (T90.setTop (mkF m 272 #[iv p1, iv p2, iv p3, .val (.long p4), .second, iv (p1 &&& (3 : Int32)), iv (p2 &&& (2147483647 : Int32)), iv cp, iv 3, iv at', rv b66] [(.int ((224 : Int32) ||| (cp >>> ((12 : Int32) &&& 31))).toInt8.toInt32), (.int at'), (.ref b66)]))
    obtain ⟨cl93, Ar93, aq93, aS93, aN93, aH93, aG93⟩ := id V_92
    have hin93 := inb_of (j := at') aS93 (by rcases hv4 with rfl | rfl | rfl | rfl <;> exact ⟨by decide, by decide⟩)
    obtain ⟨T94, h94, X94, e94, W94, st94⟩ := stB X90 hx hZ e90 Ar93 (j := at') hin93 (g := (mkF m 272 #[iv p1, iv p2, iv p3, .val (.long p4), .second, iv (p1 &&& (3 : Int32)), iv (p2 &&& (2147483647 : Int32)), iv cp, iv 3, iv at', rv b66] [(.int ((224 : Int32) ||| (cp >>> ((12 : Int32) &&& 31))).toInt8.toInt32), (.int at'), (.ref b66)])) rfl rfl (hb hby at_272)
    have K94 := K90.wr W94 (Or.inr sz_b66)
    have N94 := Fr.snoc X94 N90 g_b66
    have V_95 : Arv Z h94 b66 k66 .byte (8 : Int32) (vs0.set (at').toNatClampNeg (.int ((224 : Int32) ||| (cp >>> ((12 : Int32) &&& 31))).toInt8.toInt32.toInt8.toInt32)) (.int 0) := Arv.set Ar93 aq93 aS93 aN93 aH93 aG93 (fits_nar_byte _) W94 (at').toNatClampNeg rfl (by (try simp only [List.length_set]); exact (by subst hvs0; rcases hv4 with rfl | rfl | rfl | rfl <;> exact Nat.le_of_ble_eq_true rfl))
    refine Goes.on (fun t k => st94 t k) ?_
    show Goes p e below QQ (T94.setTop (mkF m 273 #[iv p1, iv p2, iv p3, .val (.long p4), .second, iv (p1 &&& (3 : Int32)), iv (p2 &&& (2147483647 : Int32)), iv cp, iv 3, iv at', rv b66] []))
    refine Goes.on (fun t k => XS.aload X94.here hx rfl (hb hby at_273) rfl rfl k) ?_
    show Goes p e below QQ (T94.setTop (mkF m 275 #[iv p1, iv p2, iv p3, .val (.long p4), .second, iv (p1 &&& (3 : Int32)), iv (p2 &&& (2147483647 : Int32)), iv cp, iv 3, iv at', rv b66] [(.ref b66)]))
    refine Goes.on (fun t k => XS.iload X94.here hx rfl (hb hby at_275) rfl k) ?_
    show Goes p e below QQ (T94.setTop (mkF m 277 #[iv p1, iv p2, iv p3, .val (.long p4), .second, iv (p1 &&& (3 : Int32)), iv (p2 &&& (2147483647 : Int32)), iv cp, iv 3, iv at', rv b66] [(.int at'), (.ref b66)]))
    refine Goes.on (fun t k => XS.iconst X94.here hx rfl (hb hby at_277) k) ?_
    show Goes p e below QQ (T94.setTop (mkF m 278 #[iv p1, iv p2, iv p3, .val (.long p4), .second, iv (p1 &&& (3 : Int32)), iv (p2 &&& (2147483647 : Int32)), iv cp, iv 3, iv at', rv b66] [(.int 1), (.int at'), (.ref b66)]))
    refine Goes.on (fun t k => XS.iadd X94.here hx rfl (hb hby at_278) rfl k) ?_
    show Goes p e below QQ (T94.setTop (mkF m 279 #[iv p1, iv p2, iv p3, .val (.long p4), .second, iv (p1 &&& (3 : Int32)), iv (p2 &&& (2147483647 : Int32)), iv cp, iv 3, iv at', rv b66] [(.int (at' + (1 : Int32))), (.ref b66)]))
    refine Goes.on (fun t k => XS.sipush X94.here hx rfl (hb hby at_279) k) ?_
    show Goes p e below QQ (T94.setTop (mkF m 282 #[iv p1, iv p2, iv p3, .val (.long p4), .second, iv (p1 &&& (3 : Int32)), iv (p2 &&& (2147483647 : Int32)), iv cp, iv 3, iv at', rv b66] [(.int 128), (.int (at' + (1 : Int32))), (.ref b66)]))
    refine Goes.on (fun t k => XS.iload X94.here hx rfl (hb hby at_282) rfl k) ?_
    show Goes p e below QQ (T94.setTop (mkF m 284 #[iv p1, iv p2, iv p3, .val (.long p4), .second, iv (p1 &&& (3 : Int32)), iv (p2 &&& (2147483647 : Int32)), iv cp, iv 3, iv at', rv b66] [(.int cp), (.int 128), (.int (at' + (1 : Int32))), (.ref b66)]))
    refine Goes.on (fun t k => XS.bipush X94.here hx rfl (hb hby at_284) k) ?_
    show Goes p e below QQ (T94.setTop (mkF m 286 #[iv p1, iv p2, iv p3, .val (.long p4), .second, iv (p1 &&& (3 : Int32)), iv (p2 &&& (2147483647 : Int32)), iv cp, iv 3, iv at', rv b66] [(.int 6), (.int cp), (.int 128), (.int (at' + (1 : Int32))), (.ref b66)]))
    refine Goes.on (fun t k => XS.ishr X94.here hx rfl (hb hby at_286) rfl k) ?_
    show Goes p e below QQ (T94.setTop (mkF m 287 #[iv p1, iv p2, iv p3, .val (.long p4), .second, iv (p1 &&& (3 : Int32)), iv (p2 &&& (2147483647 : Int32)), iv cp, iv 3, iv at', rv b66] [(.int (cp >>> ((6 : Int32) &&& 31))), (.int 128), (.int (at' + (1 : Int32))), (.ref b66)]))
    refine Goes.on (fun t k => XS.bipush X94.here hx rfl (hb hby at_287) k) ?_
    show Goes p e below QQ (T94.setTop (mkF m 289 #[iv p1, iv p2, iv p3, .val (.long p4), .second, iv (p1 &&& (3 : Int32)), iv (p2 &&& (2147483647 : Int32)), iv cp, iv 3, iv at', rv b66] [(.int 63), (.int (cp >>> ((6 : Int32) &&& 31))), (.int 128), (.int (at' + (1 : Int32))), (.ref b66)]))
    refine Goes.on (fun t k => XS.iand X94.here hx rfl (hb hby at_289) rfl k) ?_
    show Goes p e below QQ (T94.setTop (mkF m 290 #[iv p1, iv p2, iv p3, .val (.long p4), .second, iv (p1 &&& (3 : Int32)), iv (p2 &&& (2147483647 : Int32)), iv cp, iv 3, iv at', rv b66] [(.int ((cp >>> ((6 : Int32) &&& 31)) &&& (63 : Int32))), (.int 128), (.int (at' + (1 : Int32))), (.ref b66)]))
    refine Goes.on (fun t k => XS.ior X94.here hx rfl (hb hby at_290) rfl k) ?_
    show Goes p e below QQ (T94.setTop (mkF m 291 #[iv p1, iv p2, iv p3, .val (.long p4), .second, iv (p1 &&& (3 : Int32)), iv (p2 &&& (2147483647 : Int32)), iv cp, iv 3, iv at', rv b66] [(.int ((128 : Int32) ||| ((cp >>> ((6 : Int32) &&& 31)) &&& (63 : Int32)))), (.int (at' + (1 : Int32))), (.ref b66)]))
    refine Goes.on (fun t k => XS.i2b X94.here hx rfl (hb hby at_291) rfl k) ?_
    show Goes p e below QQ (T94.setTop (mkF m 292 #[iv p1, iv p2, iv p3, .val (.long p4), .second, iv (p1 &&& (3 : Int32)), iv (p2 &&& (2147483647 : Int32)), iv cp, iv 3, iv at', rv b66] [(.int ((128 : Int32) ||| ((cp >>> ((6 : Int32) &&& 31)) &&& (63 : Int32))).toInt8.toInt32), (.int (at' + (1 : Int32))), (.ref b66)]))
    obtain ⟨cl96, Ar96, aq96, aS96, aN96, aH96, aG96⟩ := id V_95
    have hin96 := inb_of (j := (at' + (1 : Int32))) aS96 (by rcases hv4 with rfl | rfl | rfl | rfl <;> exact ⟨by decide, by decide⟩)
    obtain ⟨T97, h97, X97, e97, W97, st97⟩ := stB X94 hx hZ e94 Ar96 (j := (at' + (1 : Int32))) hin96 (g := (mkF m 292 #[iv p1, iv p2, iv p3, .val (.long p4), .second, iv (p1 &&& (3 : Int32)), iv (p2 &&& (2147483647 : Int32)), iv cp, iv 3, iv at', rv b66] [(.int ((128 : Int32) ||| ((cp >>> ((6 : Int32) &&& 31)) &&& (63 : Int32))).toInt8.toInt32), (.int (at' + (1 : Int32))), (.ref b66)])) rfl rfl (hb hby at_292)
    have K97 := K94.wr W97 (Or.inr sz_b66)
    have N97 := Fr.snoc X97 N94 g_b66
    have V_98 : Arv Z h97 b66 k66 .byte (8 : Int32) ((vs0.set (at').toNatClampNeg (.int ((224 : Int32) ||| (cp >>> ((12 : Int32) &&& 31))).toInt8.toInt32.toInt8.toInt32)).set ((at' + (1 : Int32))).toNatClampNeg (.int ((128 : Int32) ||| ((cp >>> ((6 : Int32) &&& 31)) &&& (63 : Int32))).toInt8.toInt32.toInt8.toInt32)) (.int 0) := Arv.set Ar96 aq96 aS96 aN96 aH96 aG96 (fits_nar_byte _) W97 ((at' + (1 : Int32))).toNatClampNeg rfl (by (try simp only [List.length_set]); exact (by subst hvs0; rcases hv4 with rfl | rfl | rfl | rfl <;> exact Nat.le_of_ble_eq_true rfl))
    refine Goes.on (fun t k => st97 t k) ?_
    show Goes p e below QQ (T97.setTop (mkF m 293 #[iv p1, iv p2, iv p3, .val (.long p4), .second, iv (p1 &&& (3 : Int32)), iv (p2 &&& (2147483647 : Int32)), iv cp, iv 3, iv at', rv b66] []))
    refine Goes.on (fun t k => XS.aload X97.here hx rfl (hb hby at_293) rfl rfl k) ?_
    show Goes p e below QQ (T97.setTop (mkF m 295 #[iv p1, iv p2, iv p3, .val (.long p4), .second, iv (p1 &&& (3 : Int32)), iv (p2 &&& (2147483647 : Int32)), iv cp, iv 3, iv at', rv b66] [(.ref b66)]))
    refine Goes.on (fun t k => XS.iload X97.here hx rfl (hb hby at_295) rfl k) ?_
    show Goes p e below QQ (T97.setTop (mkF m 297 #[iv p1, iv p2, iv p3, .val (.long p4), .second, iv (p1 &&& (3 : Int32)), iv (p2 &&& (2147483647 : Int32)), iv cp, iv 3, iv at', rv b66] [(.int at'), (.ref b66)]))
    refine Goes.on (fun t k => XS.iconst X97.here hx rfl (hb hby at_297) k) ?_
    show Goes p e below QQ (T97.setTop (mkF m 298 #[iv p1, iv p2, iv p3, .val (.long p4), .second, iv (p1 &&& (3 : Int32)), iv (p2 &&& (2147483647 : Int32)), iv cp, iv 3, iv at', rv b66] [(.int 2), (.int at'), (.ref b66)]))
    refine Goes.on (fun t k => XS.iadd X97.here hx rfl (hb hby at_298) rfl k) ?_
    show Goes p e below QQ (T97.setTop (mkF m 299 #[iv p1, iv p2, iv p3, .val (.long p4), .second, iv (p1 &&& (3 : Int32)), iv (p2 &&& (2147483647 : Int32)), iv cp, iv 3, iv at', rv b66] [(.int (at' + (2 : Int32))), (.ref b66)]))
    refine Goes.on (fun t k => XS.sipush X97.here hx rfl (hb hby at_299) k) ?_
    show Goes p e below QQ (T97.setTop (mkF m 302 #[iv p1, iv p2, iv p3, .val (.long p4), .second, iv (p1 &&& (3 : Int32)), iv (p2 &&& (2147483647 : Int32)), iv cp, iv 3, iv at', rv b66] [(.int 128), (.int (at' + (2 : Int32))), (.ref b66)]))
    refine Goes.on (fun t k => XS.iload X97.here hx rfl (hb hby at_302) rfl k) ?_
    show Goes p e below QQ (T97.setTop (mkF m 304 #[iv p1, iv p2, iv p3, .val (.long p4), .second, iv (p1 &&& (3 : Int32)), iv (p2 &&& (2147483647 : Int32)), iv cp, iv 3, iv at', rv b66] [(.int cp), (.int 128), (.int (at' + (2 : Int32))), (.ref b66)]))
    refine Goes.on (fun t k => XS.bipush X97.here hx rfl (hb hby at_304) k) ?_
    show Goes p e below QQ (T97.setTop (mkF m 306 #[iv p1, iv p2, iv p3, .val (.long p4), .second, iv (p1 &&& (3 : Int32)), iv (p2 &&& (2147483647 : Int32)), iv cp, iv 3, iv at', rv b66] [(.int 63), (.int cp), (.int 128), (.int (at' + (2 : Int32))), (.ref b66)]))
    refine Goes.on (fun t k => XS.iand X97.here hx rfl (hb hby at_306) rfl k) ?_
    show Goes p e below QQ (T97.setTop (mkF m 307 #[iv p1, iv p2, iv p3, .val (.long p4), .second, iv (p1 &&& (3 : Int32)), iv (p2 &&& (2147483647 : Int32)), iv cp, iv 3, iv at', rv b66] [(.int (cp &&& (63 : Int32))), (.int 128), (.int (at' + (2 : Int32))), (.ref b66)]))
    refine Goes.on (fun t k => XS.ior X97.here hx rfl (hb hby at_307) rfl k) ?_
    show Goes p e below QQ (T97.setTop (mkF m 308 #[iv p1, iv p2, iv p3, .val (.long p4), .second, iv (p1 &&& (3 : Int32)), iv (p2 &&& (2147483647 : Int32)), iv cp, iv 3, iv at', rv b66] [(.int ((128 : Int32) ||| (cp &&& (63 : Int32)))), (.int (at' + (2 : Int32))), (.ref b66)]))
    refine Goes.on (fun t k => XS.i2b X97.here hx rfl (hb hby at_308) rfl k) ?_
    show Goes p e below QQ (T97.setTop (mkF m 309 #[iv p1, iv p2, iv p3, .val (.long p4), .second, iv (p1 &&& (3 : Int32)), iv (p2 &&& (2147483647 : Int32)), iv cp, iv 3, iv at', rv b66] [(.int ((128 : Int32) ||| (cp &&& (63 : Int32))).toInt8.toInt32), (.int (at' + (2 : Int32))), (.ref b66)]))
    obtain ⟨cl99, Ar99, aq99, aS99, aN99, aH99, aG99⟩ := id V_98
    have hin99 := inb_of (j := (at' + (2 : Int32))) aS99 (by rcases hv4 with rfl | rfl | rfl | rfl <;> exact ⟨by decide, by decide⟩)
    obtain ⟨T100, h100, X100, e100, W100, st100⟩ := stB X97 hx hZ e97 Ar99 (j := (at' + (2 : Int32))) hin99 (g := (mkF m 309 #[iv p1, iv p2, iv p3, .val (.long p4), .second, iv (p1 &&& (3 : Int32)), iv (p2 &&& (2147483647 : Int32)), iv cp, iv 3, iv at', rv b66] [(.int ((128 : Int32) ||| (cp &&& (63 : Int32))).toInt8.toInt32), (.int (at' + (2 : Int32))), (.ref b66)])) rfl rfl (hb hby at_309)
    have K100 := K97.wr W100 (Or.inr sz_b66)
    have N100 := Fr.snoc X100 N97 g_b66
    have V_101 : Arv Z h100 b66 k66 .byte (8 : Int32) (((vs0.set (at').toNatClampNeg (.int ((224 : Int32) ||| (cp >>> ((12 : Int32) &&& 31))).toInt8.toInt32.toInt8.toInt32)).set ((at' + (1 : Int32))).toNatClampNeg (.int ((128 : Int32) ||| ((cp >>> ((6 : Int32) &&& 31)) &&& (63 : Int32))).toInt8.toInt32.toInt8.toInt32)).set ((at' + (2 : Int32))).toNatClampNeg (.int ((128 : Int32) ||| (cp &&& (63 : Int32))).toInt8.toInt32.toInt8.toInt32)) (.int 0) := Arv.set Ar99 aq99 aS99 aN99 aH99 aG99 (fits_nar_byte _) W100 ((at' + (2 : Int32))).toNatClampNeg rfl (by (try simp only [List.length_set]); exact (by subst hvs0; rcases hv4 with rfl | rfl | rfl | rfl <;> exact Nat.le_of_ble_eq_true rfl))
    refine Goes.on (fun t k => st100 t k) ?_
    show Goes p e below QQ (T100.setTop (mkF m 310 #[iv p1, iv p2, iv p3, .val (.long p4), .second, iv (p1 &&& (3 : Int32)), iv (p2 &&& (2147483647 : Int32)), iv cp, iv 3, iv at', rv b66] []))
    refine Goes.on (fun t k => XS.goto X100.here hx rfl (pc0 := 310) (pc' := 385) rfl (hb hby at_310) (by decide) (by decide) k) ?_
    show Goes p e below QQ (T100.setTop (mkF m 385 #[iv p1, iv p2, iv p3, .val (.long p4), .second, iv (p1 &&& (3 : Int32)), iv (p2 &&& (2147483647 : Int32)), iv cp, iv 3, iv at', rv b66] []))
    refine Goes.on (fun t k => XS.aload X100.here hx rfl (hb hby at_385) rfl rfl k) ?_
    show Goes p e below QQ (T100.setTop (mkF m 387 #[iv p1, iv p2, iv p3, .val (.long p4), .second, iv (p1 &&& (3 : Int32)), iv (p2 &&& (2147483647 : Int32)), iv cp, iv 3, iv at', rv b66] [(.ref b66)]))
    refine Goes.on (fun t k => XS.iload X100.here hx rfl (hb hby at_387) rfl k) ?_
    show Goes p e below QQ (T100.setTop (mkF m 389 #[iv p1, iv p2, iv p3, .val (.long p4), .second, iv (p1 &&& (3 : Int32)), iv (p2 &&& (2147483647 : Int32)), iv cp, iv 3, iv at', rv b66] [(.int at'), (.ref b66)]))
    obtain ⟨_, _, ⟨T102, L102, k102, n102⟩, -, X102, ⟨Lc102, hQ102, l102, y102, z102⟩, st102⟩ := Jvm.LawKit.callS X100 hx (y := (⟨"com/example/sober_links/soberlinks/io/Utf8", "codePointAt", "([BI)I"⟩ : MethodName)) hown (mvT hZ (hw _ (List.mem_of_getElem? (i := 2) rfl))) (mvT hZ (hw _ (List.mem_of_getElem? (i := 3) rfl))) (mvT hZ (hw _ (List.mem_of_getElem? (i := 4) rfl))) (mvT hZ (hw _ (List.mem_of_getElem? (i := 5) rfl))) (by decide) (backOf (W := 0) (rm1_3 l Z a0 hw [] b66 at' k66 (8 : Int32) (((vs0.set (at').toNatClampNeg (.int ((224 : Int32) ||| (cp >>> ((12 : Int32) &&& 31))).toInt8.toInt32.toInt8.toInt32)).set ((at' + (1 : Int32))).toNatClampNeg (.int ((128 : Int32) ||| ((cp >>> ((6 : Int32) &&& 31)) &&& (63 : Int32))).toInt8.toInt32.toInt8.toInt32)).set ((at' + (2 : Int32))).toNatClampNeg (.int ((128 : Int32) ||| (cp &&& (63 : Int32))).toInt8.toInt32.toInt8.toInt32)) (((224 : Int32) ||| (cp >>> ((12 : Int32) &&& 31))).toInt8.toInt32.toInt8.toInt32) (((128 : Int32) ||| ((cp >>> ((6 : Int32) &&& 31)) &&& (63 : Int32))).toInt8.toInt32.toInt8.toInt32) (((128 : Int32) ||| (cp &&& (63 : Int32))).toInt8.toInt32.toInt8.toInt32) h100 n0 (Nat.le_trans Z0 K100.1) V_101 (by rcases hv4 with rfl | rfl | rfl | rfl <;> exact ⟨by decide, by decide⟩) (by subst hvs0; rcases hv4 with rfl | rfl | rfl | rfl <;> rfl) (by rcases hv4 with rfl | rfl | rfl | rfl <;> exact ⟨by decide, by decide⟩) (by subst hvs0; rcases hv4 with rfl | rfl | rfl | rfl <;> rfl) (by rcases hv4 with rfl | rfl | rfl | rfl <;> exact ⟨by decide, by decide⟩) (by subst hvs0; rcases hv4 with rfl | rfl | rfl | rfl <;> rfl) (own_lead3_0 cp hcp) (own_lead3_1 cp hcp) (own_lead3_2 cp hcp)) hZ (hw _ (List.mem_of_getElem? (i := 5) rfl)) (hw _ (List.mem_of_getElem? (i := 4) rfl)) (by decide) (by decide)) (g := (mkF m 389 #[iv p1, iv p2, iv p3, .val (.long p4), .second, iv (p1 &&& (3 : Int32)), iv (p2 &&& (2147483647 : Int32)), iv cp, iv 3, iv at', rv b66] [(.int at'), (.ref b66)])) rfl (by rw [hml]; rfl) (argsL := [(.ref b66), (.int at')]) (rest := []) (lenOf pd_0 rfl) rfl (by show 2 * 0 + _ ≤ _; exact Nat.le_of_eq rfl) (hb hby at_389) (fun _ _ => ⟨rfl, e100, (by decide : 1 + 0 ≤ _), (by decide : 8 + 0 ≤ _)⟩)
    dsimp only [Pt.U, Pt.locs, Pt.cells, Pt.slots] at X102 l102 y102 z102 st102 hQ102
    subst l102 y102 z102
    obtain ⟨rfl, M102, e102⟩ := hQ102
    have N102 := Fr.app N100 M102
    refine Goes.on (fun t k => st102 _ k) ?_
    show Goes p e below QQ (T102.setTop (mkF m 392 #[iv p1, iv p2, iv p3, .val (.long p4), .second, iv (p1 &&& (3 : Int32)), iv (p2 &&& (2147483647 : Int32)), iv cp, iv 3, iv at', rv b66] [(.int ((((((((224 : Int32) ||| (cp >>> ((12 : Int32) &&& 31))).toInt8.toInt32.toInt8.toInt32 &&& (255 : Int32)) &&& (15 : Int32)) <<< ((6 : Int32) &&& 31)) ||| (((128 : Int32) ||| ((cp >>> ((6 : Int32) &&& 31)) &&& (63 : Int32))).toInt8.toInt32.toInt8.toInt32 &&& (63 : Int32))) <<< ((6 : Int32) &&& 31)) ||| (((128 : Int32) ||| (cp &&& (63 : Int32))).toInt8.toInt32.toInt8.toInt32 &&& (63 : Int32))))]))
    refine Goes.on (fun t k => XS.iload X102.here hx rfl (hb hby at_392) rfl k) ?_
    show Goes p e below QQ (T102.setTop (mkF m 394 #[iv p1, iv p2, iv p3, .val (.long p4), .second, iv (p1 &&& (3 : Int32)), iv (p2 &&& (2147483647 : Int32)), iv cp, iv 3, iv at', rv b66] [(.int cp), (.int ((((((((224 : Int32) ||| (cp >>> ((12 : Int32) &&& 31))).toInt8.toInt32.toInt8.toInt32 &&& (255 : Int32)) &&& (15 : Int32)) <<< ((6 : Int32) &&& 31)) ||| (((128 : Int32) ||| ((cp >>> ((6 : Int32) &&& 31)) &&& (63 : Int32))).toInt8.toInt32.toInt8.toInt32 &&& (63 : Int32))) <<< ((6 : Int32) &&& 31)) ||| (((128 : Int32) ||| (cp &&& (63 : Int32))).toInt8.toInt32.toInt8.toInt32 &&& (63 : Int32))))]))
    refine Goes.on (fun t k => XS.icmpNo X102.here hx rfl (hb hby at_394) rfl (teq (own_dec3 cp hcp)).2 k) ?_
    show Goes p e below QQ (T102.setTop (mkF m 397 #[iv p1, iv p2, iv p3, .val (.long p4), .second, iv (p1 &&& (3 : Int32)), iv (p2 &&& (2147483647 : Int32)), iv cp, iv 3, iv at', rv b66] []))
    refine Goes.on (fun t k => XS.iconst X102.here hx rfl (hb hby at_397) k) ?_
    show Goes p e below QQ (T102.setTop (mkF m 398 #[iv p1, iv p2, iv p3, .val (.long p4), .second, iv (p1 &&& (3 : Int32)), iv (p2 &&& (2147483647 : Int32)), iv cp, iv 3, iv at', rv b66] [(.int 1)]))
    refine Goes.on (fun t k => XS.goto X102.here hx rfl (pc0 := 398) (pc' := 402) rfl (hb hby at_398) (by decide) (by decide) k) ?_
    show Goes p e below QQ (T102.setTop (mkF m 402 #[iv p1, iv p2, iv p3, .val (.long p4), .second, iv (p1 &&& (3 : Int32)), iv (p2 &&& (2147483647 : Int32)), iv cp, iv 3, iv at', rv b66] [(.int 1)]))
    exact Goes.rN X102 hx (t := .boolean) hret (by simp) hlk (hb hby at_402) hQQ ⟨rfl, N102⟩ (by decide) (by decide)
  have J4 : ∀ cp : Int32, 65536 ≤ cp.toInt ∧ cp.toInt < 1114112 → Goes p e below QQ (s₁.setTop (mkF m 104 #[iv p1, iv p2, iv p3, .val (.long p4), .second, iv (p1 &&& (3 : Int32)), iv (p2 &&& (2147483647 : Int32)), iv cp, iv 4, .unset, .unset] [])) := by
    intro cp hcp
    show Goes p e below QQ (s₁.setTop (mkF m 104 #[iv p1, iv p2, iv p3, .val (.long p4), .second, iv (p1 &&& (3 : Int32)), iv (p2 &&& (2147483647 : Int32)), iv cp, iv 4, .unset, .unset] []))
    refine Goes.on (fun t k => XS.iloadN X0.here hx rfl (hb hby at_104) rfl k) ?_
    show Goes p e below QQ (s₁.setTop (mkF m 105 #[iv p1, iv p2, iv p3, .val (.long p4), .second, iv (p1 &&& (3 : Int32)), iv (p2 &&& (2147483647 : Int32)), iv cp, iv 4, .unset, .unset] [(.int p3)]))
    refine Goes.on (fun t k => XS.iconst X0.here hx rfl (hb hby at_105) k) ?_
    show Goes p e below QQ (s₁.setTop (mkF m 106 #[iv p1, iv p2, iv p3, .val (.long p4), .second, iv (p1 &&& (3 : Int32)), iv (p2 &&& (2147483647 : Int32)), iv cp, iv 4, .unset, .unset] [(.int 3), (.int p3)]))
    refine Goes.on (fun t k => XS.iand X0.here hx rfl (hb hby at_106) rfl k) ?_
    show Goes p e below QQ (s₁.setTop (mkF m 107 #[iv p1, iv p2, iv p3, .val (.long p4), .second, iv (p1 &&& (3 : Int32)), iv (p2 &&& (2147483647 : Int32)), iv cp, iv 4, .unset, .unset] [(.int (p3 &&& (3 : Int32)))]))
    refine Goes.on (fun t k => XS.istore X0.here hx rfl (hb hby at_107) rfl (l' := #[iv p1, iv p2, iv p3, .val (.long p4), .second, iv (p1 &&& (3 : Int32)), iv (p2 &&& (2147483647 : Int32)), iv cp, iv 4, iv (p3 &&& (3 : Int32)), .unset]) rfl k) ?_
    show Goes p e below QQ (s₁.setTop (mkF m 109 #[iv p1, iv p2, iv p3, .val (.long p4), .second, iv (p1 &&& (3 : Int32)), iv (p2 &&& (2147483647 : Int32)), iv cp, iv 4, iv (p3 &&& (3 : Int32)), .unset] []))
    generalize (p3 &&& (3 : Int32)) = at' at *
    show Goes p e below QQ (s₁.setTop (mkF m 109 #[iv p1, iv p2, iv p3, .val (.long p4), .second, iv (p1 &&& (3 : Int32)), iv (p2 &&& (2147483647 : Int32)), iv cp, iv 4, iv at', .unset] []))
    refine Goes.on (fun t k => XS.bipush X0.here hx rfl (hb hby at_109) k) ?_
    show Goes p e below QQ (s₁.setTop (mkF m 111 #[iv p1, iv p2, iv p3, .val (.long p4), .second, iv (p1 &&& (3 : Int32)), iv (p2 &&& (2147483647 : Int32)), iv cp, iv 4, iv at', .unset] [(.int 8)]))
    obtain ⟨T103, h103, k103, X103, e103, E103, A103, st103⟩ := newP X0 hx hZ (hw _ (List.mem_of_getElem? (i := 1) rfl)) e0 (g := (mkF m 111 #[iv p1, iv p2, iv p3, .val (.long p4), .second, iv (p1 &&& (3 : Int32)), iv (p2 &&& (2147483647 : Int32)), iv cp, iv 4, iv at', .unset] [(.int 8)])) rfl (hb hby at_111) rfl (by decide) (cap := 8) (by decide) (by decide) (by decide) (by decide)
    obtain ⟨b103, g103⟩ : ∃ z, z = h0.size := ⟨_, rfl⟩
    rw [← g103] at A103 st103
    have sz_b103 : h0.size ≤ b103 := Nat.le_trans K0.1 (Nat.le_of_eq g103.symm)
    have g_b103 : n0 ≤ b103 := Nat.le_trans Z0 sz_b103
    have K103 := K0.ext E103
    have V_104 : Arv Z h103 b103 k103 .byte (8 : Int32) [(.int 0), (.int 0), (.int 0), (.int 0), (.int 0), (.int 0), (.int 0), (.int 0)] (.int 0) := (Arv.new A103 (by decide)).pad (pad_rep [] (.int 0) 8)
    refine Goes.on (fun t k => st103 t k) ?_
    show Goes p e below QQ (T103.setTop (mkF m 113 #[iv p1, iv p2, iv p3, .val (.long p4), .second, iv (p1 &&& (3 : Int32)), iv (p2 &&& (2147483647 : Int32)), iv cp, iv 4, iv at', .unset] [(.ref b103)]))
    refine Goes.on (fun t k => XS.astore X103.here hx rfl (hb hby at_113) rfl rfl (l' := #[iv p1, iv p2, iv p3, .val (.long p4), .second, iv (p1 &&& (3 : Int32)), iv (p2 &&& (2147483647 : Int32)), iv cp, iv 4, iv at', rv b103]) rfl k) ?_
    show Goes p e below QQ (T103.setTop (mkF m 115 #[iv p1, iv p2, iv p3, .val (.long p4), .second, iv (p1 &&& (3 : Int32)), iv (p2 &&& (2147483647 : Int32)), iv cp, iv 4, iv at', rv b103] []))
    refine Goes.on (fun t k => XS.aload X103.here hx rfl (hb hby at_115) rfl rfl k) ?_
    show Goes p e below QQ (T103.setTop (mkF m 117 #[iv p1, iv p2, iv p3, .val (.long p4), .second, iv (p1 &&& (3 : Int32)), iv (p2 &&& (2147483647 : Int32)), iv cp, iv 4, iv at', rv b103] [(.ref b103)]))
    refine Goes.on (fun t k => XS.iconst X103.here hx rfl (hb hby at_117) k) ?_
    show Goes p e below QQ (T103.setTop (mkF m 118 #[iv p1, iv p2, iv p3, .val (.long p4), .second, iv (p1 &&& (3 : Int32)), iv (p2 &&& (2147483647 : Int32)), iv cp, iv 4, iv at', rv b103] [(.int 0), (.ref b103)]))
    refine Goes.on (fun t k => XS.lloadN X103.here hx rfl (hb hby at_118) rfl k) ?_
    show Goes p e below QQ (T103.setTop (mkF m 119 #[iv p1, iv p2, iv p3, .val (.long p4), .second, iv (p1 &&& (3 : Int32)), iv (p2 &&& (2147483647 : Int32)), iv cp, iv 4, iv at', rv b103] [(.long p4), (.int 0), (.ref b103)]))
    refine Goes.on (fun t k => XS.l2i X103.here hx rfl (hb hby at_119) rfl k) ?_
    show Goes p e below QQ (T103.setTop (mkF m 120 #[iv p1, iv p2, iv p3, .val (.long p4), .second, iv (p1 &&& (3 : Int32)), iv (p2 &&& (2147483647 : Int32)), iv cp, iv 4, iv at', rv b103] [(.int p4.toInt32), (.int 0), (.ref b103)]))
    refine Goes.on (fun t k => XS.i2b X103.here hx rfl (hb hby at_120) rfl k) ?_
    show Goes p e below QQ (T103.setTop (mkF m 121 #[iv p1, iv p2, iv p3, .val (.long p4), .second, iv (p1 &&& (3 : Int32)), iv (p2 &&& (2147483647 : Int32)), iv cp, iv 4, iv at', rv b103] [(.int p4.toInt32.toInt8.toInt32), (.int 0), (.ref b103)]))
    obtain ⟨cl105, Ar105, aq105, aS105, aN105, aH105, aG105⟩ := id V_104
    have hin105 := inb_of (j := (0 : Int32)) aS105 ⟨by decide, by decide⟩
    obtain ⟨T106, h106, X106, e106, W106, st106⟩ := stB X103 hx hZ e103 Ar105 (j := (0 : Int32)) hin105 (g := (mkF m 121 #[iv p1, iv p2, iv p3, .val (.long p4), .second, iv (p1 &&& (3 : Int32)), iv (p2 &&& (2147483647 : Int32)), iv cp, iv 4, iv at', rv b103] [(.int p4.toInt32.toInt8.toInt32), (.int 0), (.ref b103)])) rfl rfl (hb hby at_121)
    have K106 := K103.wr W106 (Or.inr sz_b103)
    have N106 := Fr.snoc X106 N0 g_b103
    have V_107 : Arv Z h106 b103 k103 .byte (8 : Int32) [(.int p4.toInt32.toInt8.toInt32.toInt8.toInt32), (.int 0), (.int 0), (.int 0), (.int 0), (.int 0), (.int 0), (.int 0)] (.int 0) := Arv.set Ar105 aq105 aS105 aN105 aH105 aG105 (fits_nar_byte _) W106 0 rfl (Nat.le_of_ble_eq_true rfl)
    refine Goes.on (fun t k => st106 t k) ?_
    show Goes p e below QQ (T106.setTop (mkF m 122 #[iv p1, iv p2, iv p3, .val (.long p4), .second, iv (p1 &&& (3 : Int32)), iv (p2 &&& (2147483647 : Int32)), iv cp, iv 4, iv at', rv b103] []))
    refine Goes.on (fun t k => XS.aload X106.here hx rfl (hb hby at_122) rfl rfl k) ?_
    show Goes p e below QQ (T106.setTop (mkF m 124 #[iv p1, iv p2, iv p3, .val (.long p4), .second, iv (p1 &&& (3 : Int32)), iv (p2 &&& (2147483647 : Int32)), iv cp, iv 4, iv at', rv b103] [(.ref b103)]))
    refine Goes.on (fun t k => XS.iconst X106.here hx rfl (hb hby at_124) k) ?_
    show Goes p e below QQ (T106.setTop (mkF m 125 #[iv p1, iv p2, iv p3, .val (.long p4), .second, iv (p1 &&& (3 : Int32)), iv (p2 &&& (2147483647 : Int32)), iv cp, iv 4, iv at', rv b103] [(.int 1), (.ref b103)]))
    refine Goes.on (fun t k => XS.lloadN X106.here hx rfl (hb hby at_125) rfl k) ?_
    show Goes p e below QQ (T106.setTop (mkF m 126 #[iv p1, iv p2, iv p3, .val (.long p4), .second, iv (p1 &&& (3 : Int32)), iv (p2 &&& (2147483647 : Int32)), iv cp, iv 4, iv at', rv b103] [(.long p4), (.int 1), (.ref b103)]))
    refine Goes.on (fun t k => XS.bipush X106.here hx rfl (hb hby at_126) k) ?_
    show Goes p e below QQ (T106.setTop (mkF m 128 #[iv p1, iv p2, iv p3, .val (.long p4), .second, iv (p1 &&& (3 : Int32)), iv (p2 &&& (2147483647 : Int32)), iv cp, iv 4, iv at', rv b103] [(.int 8), (.long p4), (.int 1), (.ref b103)]))
    refine Goes.on (fun t k => XS.lshr X106.here hx rfl (hb hby at_128) rfl k) ?_
    show Goes p e below QQ (T106.setTop (mkF m 129 #[iv p1, iv p2, iv p3, .val (.long p4), .second, iv (p1 &&& (3 : Int32)), iv (p2 &&& (2147483647 : Int32)), iv cp, iv 4, iv at', rv b103] [(.long (p4 >>> ((8 : Int32) &&& 0x3f).toInt64)), (.int 1), (.ref b103)]))
    refine Goes.on (fun t k => XS.l2i X106.here hx rfl (hb hby at_129) rfl k) ?_
    show Goes p e below QQ (T106.setTop (mkF m 130 #[iv p1, iv p2, iv p3, .val (.long p4), .second, iv (p1 &&& (3 : Int32)), iv (p2 &&& (2147483647 : Int32)), iv cp, iv 4, iv at', rv b103] [(.int (p4 >>> ((8 : Int32) &&& 0x3f).toInt64).toInt32), (.int 1), (.ref b103)]))
    refine Goes.on (fun t k => XS.i2b X106.here hx rfl (hb hby at_130) rfl k) ?_
    show Goes p e below QQ (T106.setTop (mkF m 131 #[iv p1, iv p2, iv p3, .val (.long p4), .second, iv (p1 &&& (3 : Int32)), iv (p2 &&& (2147483647 : Int32)), iv cp, iv 4, iv at', rv b103] [(.int (p4 >>> ((8 : Int32) &&& 0x3f).toInt64).toInt32.toInt8.toInt32), (.int 1), (.ref b103)]))
    obtain ⟨cl108, Ar108, aq108, aS108, aN108, aH108, aG108⟩ := id V_107
    have hin108 := inb_of (j := (1 : Int32)) aS108 ⟨by decide, by decide⟩
    obtain ⟨T109, h109, X109, e109, W109, st109⟩ := stB X106 hx hZ e106 Ar108 (j := (1 : Int32)) hin108 (g := (mkF m 131 #[iv p1, iv p2, iv p3, .val (.long p4), .second, iv (p1 &&& (3 : Int32)), iv (p2 &&& (2147483647 : Int32)), iv cp, iv 4, iv at', rv b103] [(.int (p4 >>> ((8 : Int32) &&& 0x3f).toInt64).toInt32.toInt8.toInt32), (.int 1), (.ref b103)])) rfl rfl (hb hby at_131)
    have K109 := K106.wr W109 (Or.inr sz_b103)
    have N109 := Fr.snoc X109 N106 g_b103
    have V_110 : Arv Z h109 b103 k103 .byte (8 : Int32) [(.int p4.toInt32.toInt8.toInt32.toInt8.toInt32), (.int (p4 >>> ((8 : Int32) &&& 0x3f).toInt64).toInt32.toInt8.toInt32.toInt8.toInt32), (.int 0), (.int 0), (.int 0), (.int 0), (.int 0), (.int 0)] (.int 0) := Arv.set Ar108 aq108 aS108 aN108 aH108 aG108 (fits_nar_byte _) W109 1 rfl (Nat.le_of_ble_eq_true rfl)
    refine Goes.on (fun t k => st109 t k) ?_
    show Goes p e below QQ (T109.setTop (mkF m 132 #[iv p1, iv p2, iv p3, .val (.long p4), .second, iv (p1 &&& (3 : Int32)), iv (p2 &&& (2147483647 : Int32)), iv cp, iv 4, iv at', rv b103] []))
    refine Goes.on (fun t k => XS.aload X109.here hx rfl (hb hby at_132) rfl rfl k) ?_
    show Goes p e below QQ (T109.setTop (mkF m 134 #[iv p1, iv p2, iv p3, .val (.long p4), .second, iv (p1 &&& (3 : Int32)), iv (p2 &&& (2147483647 : Int32)), iv cp, iv 4, iv at', rv b103] [(.ref b103)]))
    refine Goes.on (fun t k => XS.iconst X109.here hx rfl (hb hby at_134) k) ?_
    show Goes p e below QQ (T109.setTop (mkF m 135 #[iv p1, iv p2, iv p3, .val (.long p4), .second, iv (p1 &&& (3 : Int32)), iv (p2 &&& (2147483647 : Int32)), iv cp, iv 4, iv at', rv b103] [(.int 2), (.ref b103)]))
    refine Goes.on (fun t k => XS.lloadN X109.here hx rfl (hb hby at_135) rfl k) ?_
    show Goes p e below QQ (T109.setTop (mkF m 136 #[iv p1, iv p2, iv p3, .val (.long p4), .second, iv (p1 &&& (3 : Int32)), iv (p2 &&& (2147483647 : Int32)), iv cp, iv 4, iv at', rv b103] [(.long p4), (.int 2), (.ref b103)]))
    refine Goes.on (fun t k => XS.bipush X109.here hx rfl (hb hby at_136) k) ?_
    show Goes p e below QQ (T109.setTop (mkF m 138 #[iv p1, iv p2, iv p3, .val (.long p4), .second, iv (p1 &&& (3 : Int32)), iv (p2 &&& (2147483647 : Int32)), iv cp, iv 4, iv at', rv b103] [(.int 16), (.long p4), (.int 2), (.ref b103)]))
    refine Goes.on (fun t k => XS.lshr X109.here hx rfl (hb hby at_138) rfl k) ?_
    show Goes p e below QQ (T109.setTop (mkF m 139 #[iv p1, iv p2, iv p3, .val (.long p4), .second, iv (p1 &&& (3 : Int32)), iv (p2 &&& (2147483647 : Int32)), iv cp, iv 4, iv at', rv b103] [(.long (p4 >>> ((16 : Int32) &&& 0x3f).toInt64)), (.int 2), (.ref b103)]))
    refine Goes.on (fun t k => XS.l2i X109.here hx rfl (hb hby at_139) rfl k) ?_
    show Goes p e below QQ (T109.setTop (mkF m 140 #[iv p1, iv p2, iv p3, .val (.long p4), .second, iv (p1 &&& (3 : Int32)), iv (p2 &&& (2147483647 : Int32)), iv cp, iv 4, iv at', rv b103] [(.int (p4 >>> ((16 : Int32) &&& 0x3f).toInt64).toInt32), (.int 2), (.ref b103)]))
    refine Goes.on (fun t k => XS.i2b X109.here hx rfl (hb hby at_140) rfl k) ?_
    show Goes p e below QQ (T109.setTop (mkF m 141 #[iv p1, iv p2, iv p3, .val (.long p4), .second, iv (p1 &&& (3 : Int32)), iv (p2 &&& (2147483647 : Int32)), iv cp, iv 4, iv at', rv b103] [(.int (p4 >>> ((16 : Int32) &&& 0x3f).toInt64).toInt32.toInt8.toInt32), (.int 2), (.ref b103)]))
    obtain ⟨cl111, Ar111, aq111, aS111, aN111, aH111, aG111⟩ := id V_110
    have hin111 := inb_of (j := (2 : Int32)) aS111 ⟨by decide, by decide⟩
    obtain ⟨T112, h112, X112, e112, W112, st112⟩ := stB X109 hx hZ e109 Ar111 (j := (2 : Int32)) hin111 (g := (mkF m 141 #[iv p1, iv p2, iv p3, .val (.long p4), .second, iv (p1 &&& (3 : Int32)), iv (p2 &&& (2147483647 : Int32)), iv cp, iv 4, iv at', rv b103] [(.int (p4 >>> ((16 : Int32) &&& 0x3f).toInt64).toInt32.toInt8.toInt32), (.int 2), (.ref b103)])) rfl rfl (hb hby at_141)
    have K112 := K109.wr W112 (Or.inr sz_b103)
    have N112 := Fr.snoc X112 N109 g_b103
    have V_113 : Arv Z h112 b103 k103 .byte (8 : Int32) [(.int p4.toInt32.toInt8.toInt32.toInt8.toInt32), (.int (p4 >>> ((8 : Int32) &&& 0x3f).toInt64).toInt32.toInt8.toInt32.toInt8.toInt32), (.int (p4 >>> ((16 : Int32) &&& 0x3f).toInt64).toInt32.toInt8.toInt32.toInt8.toInt32), (.int 0), (.int 0), (.int 0), (.int 0), (.int 0)] (.int 0) := Arv.set Ar111 aq111 aS111 aN111 aH111 aG111 (fits_nar_byte _) W112 2 rfl (Nat.le_of_ble_eq_true rfl)
    refine Goes.on (fun t k => st112 t k) ?_
    show Goes p e below QQ (T112.setTop (mkF m 142 #[iv p1, iv p2, iv p3, .val (.long p4), .second, iv (p1 &&& (3 : Int32)), iv (p2 &&& (2147483647 : Int32)), iv cp, iv 4, iv at', rv b103] []))
    refine Goes.on (fun t k => XS.aload X112.here hx rfl (hb hby at_142) rfl rfl k) ?_
    show Goes p e below QQ (T112.setTop (mkF m 144 #[iv p1, iv p2, iv p3, .val (.long p4), .second, iv (p1 &&& (3 : Int32)), iv (p2 &&& (2147483647 : Int32)), iv cp, iv 4, iv at', rv b103] [(.ref b103)]))
    refine Goes.on (fun t k => XS.iconst X112.here hx rfl (hb hby at_144) k) ?_
    show Goes p e below QQ (T112.setTop (mkF m 145 #[iv p1, iv p2, iv p3, .val (.long p4), .second, iv (p1 &&& (3 : Int32)), iv (p2 &&& (2147483647 : Int32)), iv cp, iv 4, iv at', rv b103] [(.int 3), (.ref b103)]))
    refine Goes.on (fun t k => XS.lloadN X112.here hx rfl (hb hby at_145) rfl k) ?_
    show Goes p e below QQ (T112.setTop (mkF m 146 #[iv p1, iv p2, iv p3, .val (.long p4), .second, iv (p1 &&& (3 : Int32)), iv (p2 &&& (2147483647 : Int32)), iv cp, iv 4, iv at', rv b103] [(.long p4), (.int 3), (.ref b103)]))
    refine Goes.on (fun t k => XS.bipush X112.here hx rfl (hb hby at_146) k) ?_
    show Goes p e below QQ (T112.setTop (mkF m 148 #[iv p1, iv p2, iv p3, .val (.long p4), .second, iv (p1 &&& (3 : Int32)), iv (p2 &&& (2147483647 : Int32)), iv cp, iv 4, iv at', rv b103] [(.int 24), (.long p4), (.int 3), (.ref b103)]))
    refine Goes.on (fun t k => XS.lshr X112.here hx rfl (hb hby at_148) rfl k) ?_
    show Goes p e below QQ (T112.setTop (mkF m 149 #[iv p1, iv p2, iv p3, .val (.long p4), .second, iv (p1 &&& (3 : Int32)), iv (p2 &&& (2147483647 : Int32)), iv cp, iv 4, iv at', rv b103] [(.long (p4 >>> ((24 : Int32) &&& 0x3f).toInt64)), (.int 3), (.ref b103)]))
    refine Goes.on (fun t k => XS.l2i X112.here hx rfl (hb hby at_149) rfl k) ?_
    show Goes p e below QQ (T112.setTop (mkF m 150 #[iv p1, iv p2, iv p3, .val (.long p4), .second, iv (p1 &&& (3 : Int32)), iv (p2 &&& (2147483647 : Int32)), iv cp, iv 4, iv at', rv b103] [(.int (p4 >>> ((24 : Int32) &&& 0x3f).toInt64).toInt32), (.int 3), (.ref b103)]))
    refine Goes.on (fun t k => XS.i2b X112.here hx rfl (hb hby at_150) rfl k) ?_
    show Goes p e below QQ (T112.setTop (mkF m 151 #[iv p1, iv p2, iv p3, .val (.long p4), .second, iv (p1 &&& (3 : Int32)), iv (p2 &&& (2147483647 : Int32)), iv cp, iv 4, iv at', rv b103] [(.int (p4 >>> ((24 : Int32) &&& 0x3f).toInt64).toInt32.toInt8.toInt32), (.int 3), (.ref b103)]))
    obtain ⟨cl114, Ar114, aq114, aS114, aN114, aH114, aG114⟩ := id V_113
    have hin114 := inb_of (j := (3 : Int32)) aS114 ⟨by decide, by decide⟩
    obtain ⟨T115, h115, X115, e115, W115, st115⟩ := stB X112 hx hZ e112 Ar114 (j := (3 : Int32)) hin114 (g := (mkF m 151 #[iv p1, iv p2, iv p3, .val (.long p4), .second, iv (p1 &&& (3 : Int32)), iv (p2 &&& (2147483647 : Int32)), iv cp, iv 4, iv at', rv b103] [(.int (p4 >>> ((24 : Int32) &&& 0x3f).toInt64).toInt32.toInt8.toInt32), (.int 3), (.ref b103)])) rfl rfl (hb hby at_151)
    have K115 := K112.wr W115 (Or.inr sz_b103)
    have N115 := Fr.snoc X115 N112 g_b103
    have V_116 : Arv Z h115 b103 k103 .byte (8 : Int32) [(.int p4.toInt32.toInt8.toInt32.toInt8.toInt32), (.int (p4 >>> ((8 : Int32) &&& 0x3f).toInt64).toInt32.toInt8.toInt32.toInt8.toInt32), (.int (p4 >>> ((16 : Int32) &&& 0x3f).toInt64).toInt32.toInt8.toInt32.toInt8.toInt32), (.int (p4 >>> ((24 : Int32) &&& 0x3f).toInt64).toInt32.toInt8.toInt32.toInt8.toInt32), (.int 0), (.int 0), (.int 0), (.int 0)] (.int 0) := Arv.set Ar114 aq114 aS114 aN114 aH114 aG114 (fits_nar_byte _) W115 3 rfl (Nat.le_of_ble_eq_true rfl)
    refine Goes.on (fun t k => st115 t k) ?_
    show Goes p e below QQ (T115.setTop (mkF m 152 #[iv p1, iv p2, iv p3, .val (.long p4), .second, iv (p1 &&& (3 : Int32)), iv (p2 &&& (2147483647 : Int32)), iv cp, iv 4, iv at', rv b103] []))
    refine Goes.on (fun t k => XS.aload X115.here hx rfl (hb hby at_152) rfl rfl k) ?_
    show Goes p e below QQ (T115.setTop (mkF m 154 #[iv p1, iv p2, iv p3, .val (.long p4), .second, iv (p1 &&& (3 : Int32)), iv (p2 &&& (2147483647 : Int32)), iv cp, iv 4, iv at', rv b103] [(.ref b103)]))
    refine Goes.on (fun t k => XS.iconst X115.here hx rfl (hb hby at_154) k) ?_
    show Goes p e below QQ (T115.setTop (mkF m 155 #[iv p1, iv p2, iv p3, .val (.long p4), .second, iv (p1 &&& (3 : Int32)), iv (p2 &&& (2147483647 : Int32)), iv cp, iv 4, iv at', rv b103] [(.int 4), (.ref b103)]))
    refine Goes.on (fun t k => XS.lloadN X115.here hx rfl (hb hby at_155) rfl k) ?_
    show Goes p e below QQ (T115.setTop (mkF m 156 #[iv p1, iv p2, iv p3, .val (.long p4), .second, iv (p1 &&& (3 : Int32)), iv (p2 &&& (2147483647 : Int32)), iv cp, iv 4, iv at', rv b103] [(.long p4), (.int 4), (.ref b103)]))
    refine Goes.on (fun t k => XS.bipush X115.here hx rfl (hb hby at_156) k) ?_
    show Goes p e below QQ (T115.setTop (mkF m 158 #[iv p1, iv p2, iv p3, .val (.long p4), .second, iv (p1 &&& (3 : Int32)), iv (p2 &&& (2147483647 : Int32)), iv cp, iv 4, iv at', rv b103] [(.int 32), (.long p4), (.int 4), (.ref b103)]))
    refine Goes.on (fun t k => XS.lshr X115.here hx rfl (hb hby at_158) rfl k) ?_
    show Goes p e below QQ (T115.setTop (mkF m 159 #[iv p1, iv p2, iv p3, .val (.long p4), .second, iv (p1 &&& (3 : Int32)), iv (p2 &&& (2147483647 : Int32)), iv cp, iv 4, iv at', rv b103] [(.long (p4 >>> ((32 : Int32) &&& 0x3f).toInt64)), (.int 4), (.ref b103)]))
    refine Goes.on (fun t k => XS.l2i X115.here hx rfl (hb hby at_159) rfl k) ?_
    show Goes p e below QQ (T115.setTop (mkF m 160 #[iv p1, iv p2, iv p3, .val (.long p4), .second, iv (p1 &&& (3 : Int32)), iv (p2 &&& (2147483647 : Int32)), iv cp, iv 4, iv at', rv b103] [(.int (p4 >>> ((32 : Int32) &&& 0x3f).toInt64).toInt32), (.int 4), (.ref b103)]))
    refine Goes.on (fun t k => XS.i2b X115.here hx rfl (hb hby at_160) rfl k) ?_
    show Goes p e below QQ (T115.setTop (mkF m 161 #[iv p1, iv p2, iv p3, .val (.long p4), .second, iv (p1 &&& (3 : Int32)), iv (p2 &&& (2147483647 : Int32)), iv cp, iv 4, iv at', rv b103] [(.int (p4 >>> ((32 : Int32) &&& 0x3f).toInt64).toInt32.toInt8.toInt32), (.int 4), (.ref b103)]))
    obtain ⟨cl117, Ar117, aq117, aS117, aN117, aH117, aG117⟩ := id V_116
    have hin117 := inb_of (j := (4 : Int32)) aS117 ⟨by decide, by decide⟩
    obtain ⟨T118, h118, X118, e118, W118, st118⟩ := stB X115 hx hZ e115 Ar117 (j := (4 : Int32)) hin117 (g := (mkF m 161 #[iv p1, iv p2, iv p3, .val (.long p4), .second, iv (p1 &&& (3 : Int32)), iv (p2 &&& (2147483647 : Int32)), iv cp, iv 4, iv at', rv b103] [(.int (p4 >>> ((32 : Int32) &&& 0x3f).toInt64).toInt32.toInt8.toInt32), (.int 4), (.ref b103)])) rfl rfl (hb hby at_161)
    have K118 := K115.wr W118 (Or.inr sz_b103)
    have N118 := Fr.snoc X118 N115 g_b103
    have V_119 : Arv Z h118 b103 k103 .byte (8 : Int32) [(.int p4.toInt32.toInt8.toInt32.toInt8.toInt32), (.int (p4 >>> ((8 : Int32) &&& 0x3f).toInt64).toInt32.toInt8.toInt32.toInt8.toInt32), (.int (p4 >>> ((16 : Int32) &&& 0x3f).toInt64).toInt32.toInt8.toInt32.toInt8.toInt32), (.int (p4 >>> ((24 : Int32) &&& 0x3f).toInt64).toInt32.toInt8.toInt32.toInt8.toInt32), (.int (p4 >>> ((32 : Int32) &&& 0x3f).toInt64).toInt32.toInt8.toInt32.toInt8.toInt32), (.int 0), (.int 0), (.int 0)] (.int 0) := Arv.set Ar117 aq117 aS117 aN117 aH117 aG117 (fits_nar_byte _) W118 4 rfl (Nat.le_of_ble_eq_true rfl)
    refine Goes.on (fun t k => st118 t k) ?_
    show Goes p e below QQ (T118.setTop (mkF m 162 #[iv p1, iv p2, iv p3, .val (.long p4), .second, iv (p1 &&& (3 : Int32)), iv (p2 &&& (2147483647 : Int32)), iv cp, iv 4, iv at', rv b103] []))
    refine Goes.on (fun t k => XS.aload X118.here hx rfl (hb hby at_162) rfl rfl k) ?_
    show Goes p e below QQ (T118.setTop (mkF m 164 #[iv p1, iv p2, iv p3, .val (.long p4), .second, iv (p1 &&& (3 : Int32)), iv (p2 &&& (2147483647 : Int32)), iv cp, iv 4, iv at', rv b103] [(.ref b103)]))
    refine Goes.on (fun t k => XS.iconst X118.here hx rfl (hb hby at_164) k) ?_
    show Goes p e below QQ (T118.setTop (mkF m 165 #[iv p1, iv p2, iv p3, .val (.long p4), .second, iv (p1 &&& (3 : Int32)), iv (p2 &&& (2147483647 : Int32)), iv cp, iv 4, iv at', rv b103] [(.int 5), (.ref b103)]))
    refine Goes.on (fun t k => XS.lloadN X118.here hx rfl (hb hby at_165) rfl k) ?_
    show Goes p e below QQ (T118.setTop (mkF m 166 #[iv p1, iv p2, iv p3, .val (.long p4), .second, iv (p1 &&& (3 : Int32)), iv (p2 &&& (2147483647 : Int32)), iv cp, iv 4, iv at', rv b103] [(.long p4), (.int 5), (.ref b103)]))
    refine Goes.on (fun t k => XS.bipush X118.here hx rfl (hb hby at_166) k) ?_
    show Goes p e below QQ (T118.setTop (mkF m 168 #[iv p1, iv p2, iv p3, .val (.long p4), .second, iv (p1 &&& (3 : Int32)), iv (p2 &&& (2147483647 : Int32)), iv cp, iv 4, iv at', rv b103] [(.int 40), (.long p4), (.int 5), (.ref b103)]))
    refine Goes.on (fun t k => XS.lshr X118.here hx rfl (hb hby at_168) rfl k) ?_
    show Goes p e below QQ (T118.setTop (mkF m 169 #[iv p1, iv p2, iv p3, .val (.long p4), .second, iv (p1 &&& (3 : Int32)), iv (p2 &&& (2147483647 : Int32)), iv cp, iv 4, iv at', rv b103] [(.long (p4 >>> ((40 : Int32) &&& 0x3f).toInt64)), (.int 5), (.ref b103)]))
    refine Goes.on (fun t k => XS.l2i X118.here hx rfl (hb hby at_169) rfl k) ?_
    show Goes p e below QQ (T118.setTop (mkF m 170 #[iv p1, iv p2, iv p3, .val (.long p4), .second, iv (p1 &&& (3 : Int32)), iv (p2 &&& (2147483647 : Int32)), iv cp, iv 4, iv at', rv b103] [(.int (p4 >>> ((40 : Int32) &&& 0x3f).toInt64).toInt32), (.int 5), (.ref b103)]))
    refine Goes.on (fun t k => XS.i2b X118.here hx rfl (hb hby at_170) rfl k) ?_
    show Goes p e below QQ (T118.setTop (mkF m 171 #[iv p1, iv p2, iv p3, .val (.long p4), .second, iv (p1 &&& (3 : Int32)), iv (p2 &&& (2147483647 : Int32)), iv cp, iv 4, iv at', rv b103] [(.int (p4 >>> ((40 : Int32) &&& 0x3f).toInt64).toInt32.toInt8.toInt32), (.int 5), (.ref b103)]))
    obtain ⟨cl120, Ar120, aq120, aS120, aN120, aH120, aG120⟩ := id V_119
    have hin120 := inb_of (j := (5 : Int32)) aS120 ⟨by decide, by decide⟩
    obtain ⟨T121, h121, X121, e121, W121, st121⟩ := stB X118 hx hZ e118 Ar120 (j := (5 : Int32)) hin120 (g := (mkF m 171 #[iv p1, iv p2, iv p3, .val (.long p4), .second, iv (p1 &&& (3 : Int32)), iv (p2 &&& (2147483647 : Int32)), iv cp, iv 4, iv at', rv b103] [(.int (p4 >>> ((40 : Int32) &&& 0x3f).toInt64).toInt32.toInt8.toInt32), (.int 5), (.ref b103)])) rfl rfl (hb hby at_171)
    have K121 := K118.wr W121 (Or.inr sz_b103)
    have N121 := Fr.snoc X121 N118 g_b103
    have V_122 : Arv Z h121 b103 k103 .byte (8 : Int32) [(.int p4.toInt32.toInt8.toInt32.toInt8.toInt32), (.int (p4 >>> ((8 : Int32) &&& 0x3f).toInt64).toInt32.toInt8.toInt32.toInt8.toInt32), (.int (p4 >>> ((16 : Int32) &&& 0x3f).toInt64).toInt32.toInt8.toInt32.toInt8.toInt32), (.int (p4 >>> ((24 : Int32) &&& 0x3f).toInt64).toInt32.toInt8.toInt32.toInt8.toInt32), (.int (p4 >>> ((32 : Int32) &&& 0x3f).toInt64).toInt32.toInt8.toInt32.toInt8.toInt32), (.int (p4 >>> ((40 : Int32) &&& 0x3f).toInt64).toInt32.toInt8.toInt32.toInt8.toInt32), (.int 0), (.int 0)] (.int 0) := Arv.set Ar120 aq120 aS120 aN120 aH120 aG120 (fits_nar_byte _) W121 5 rfl (Nat.le_of_ble_eq_true rfl)
    refine Goes.on (fun t k => st121 t k) ?_
    show Goes p e below QQ (T121.setTop (mkF m 172 #[iv p1, iv p2, iv p3, .val (.long p4), .second, iv (p1 &&& (3 : Int32)), iv (p2 &&& (2147483647 : Int32)), iv cp, iv 4, iv at', rv b103] []))
    refine Goes.on (fun t k => XS.aload X121.here hx rfl (hb hby at_172) rfl rfl k) ?_
    show Goes p e below QQ (T121.setTop (mkF m 174 #[iv p1, iv p2, iv p3, .val (.long p4), .second, iv (p1 &&& (3 : Int32)), iv (p2 &&& (2147483647 : Int32)), iv cp, iv 4, iv at', rv b103] [(.ref b103)]))
    refine Goes.on (fun t k => XS.bipush X121.here hx rfl (hb hby at_174) k) ?_
    show Goes p e below QQ (T121.setTop (mkF m 176 #[iv p1, iv p2, iv p3, .val (.long p4), .second, iv (p1 &&& (3 : Int32)), iv (p2 &&& (2147483647 : Int32)), iv cp, iv 4, iv at', rv b103] [(.int 6), (.ref b103)]))
    refine Goes.on (fun t k => XS.lloadN X121.here hx rfl (hb hby at_176) rfl k) ?_
    show Goes p e below QQ (T121.setTop (mkF m 177 #[iv p1, iv p2, iv p3, .val (.long p4), .second, iv (p1 &&& (3 : Int32)), iv (p2 &&& (2147483647 : Int32)), iv cp, iv 4, iv at', rv b103] [(.long p4), (.int 6), (.ref b103)]))
    refine Goes.on (fun t k => XS.bipush X121.here hx rfl (hb hby at_177) k) ?_
    show Goes p e below QQ (T121.setTop (mkF m 179 #[iv p1, iv p2, iv p3, .val (.long p4), .second, iv (p1 &&& (3 : Int32)), iv (p2 &&& (2147483647 : Int32)), iv cp, iv 4, iv at', rv b103] [(.int 48), (.long p4), (.int 6), (.ref b103)]))
    refine Goes.on (fun t k => XS.lshr X121.here hx rfl (hb hby at_179) rfl k) ?_
    show Goes p e below QQ (T121.setTop (mkF m 180 #[iv p1, iv p2, iv p3, .val (.long p4), .second, iv (p1 &&& (3 : Int32)), iv (p2 &&& (2147483647 : Int32)), iv cp, iv 4, iv at', rv b103] [(.long (p4 >>> ((48 : Int32) &&& 0x3f).toInt64)), (.int 6), (.ref b103)]))
    refine Goes.on (fun t k => XS.l2i X121.here hx rfl (hb hby at_180) rfl k) ?_
    show Goes p e below QQ (T121.setTop (mkF m 181 #[iv p1, iv p2, iv p3, .val (.long p4), .second, iv (p1 &&& (3 : Int32)), iv (p2 &&& (2147483647 : Int32)), iv cp, iv 4, iv at', rv b103] [(.int (p4 >>> ((48 : Int32) &&& 0x3f).toInt64).toInt32), (.int 6), (.ref b103)]))
    refine Goes.on (fun t k => XS.i2b X121.here hx rfl (hb hby at_181) rfl k) ?_
    show Goes p e below QQ (T121.setTop (mkF m 182 #[iv p1, iv p2, iv p3, .val (.long p4), .second, iv (p1 &&& (3 : Int32)), iv (p2 &&& (2147483647 : Int32)), iv cp, iv 4, iv at', rv b103] [(.int (p4 >>> ((48 : Int32) &&& 0x3f).toInt64).toInt32.toInt8.toInt32), (.int 6), (.ref b103)]))
    obtain ⟨cl123, Ar123, aq123, aS123, aN123, aH123, aG123⟩ := id V_122
    have hin123 := inb_of (j := (6 : Int32)) aS123 ⟨by decide, by decide⟩
    obtain ⟨T124, h124, X124, e124, W124, st124⟩ := stB X121 hx hZ e121 Ar123 (j := (6 : Int32)) hin123 (g := (mkF m 182 #[iv p1, iv p2, iv p3, .val (.long p4), .second, iv (p1 &&& (3 : Int32)), iv (p2 &&& (2147483647 : Int32)), iv cp, iv 4, iv at', rv b103] [(.int (p4 >>> ((48 : Int32) &&& 0x3f).toInt64).toInt32.toInt8.toInt32), (.int 6), (.ref b103)])) rfl rfl (hb hby at_182)
    have K124 := K121.wr W124 (Or.inr sz_b103)
    have N124 := Fr.snoc X124 N121 g_b103
    have V_125 : Arv Z h124 b103 k103 .byte (8 : Int32) [(.int p4.toInt32.toInt8.toInt32.toInt8.toInt32), (.int (p4 >>> ((8 : Int32) &&& 0x3f).toInt64).toInt32.toInt8.toInt32.toInt8.toInt32), (.int (p4 >>> ((16 : Int32) &&& 0x3f).toInt64).toInt32.toInt8.toInt32.toInt8.toInt32), (.int (p4 >>> ((24 : Int32) &&& 0x3f).toInt64).toInt32.toInt8.toInt32.toInt8.toInt32), (.int (p4 >>> ((32 : Int32) &&& 0x3f).toInt64).toInt32.toInt8.toInt32.toInt8.toInt32), (.int (p4 >>> ((40 : Int32) &&& 0x3f).toInt64).toInt32.toInt8.toInt32.toInt8.toInt32), (.int (p4 >>> ((48 : Int32) &&& 0x3f).toInt64).toInt32.toInt8.toInt32.toInt8.toInt32), (.int 0)] (.int 0) := Arv.set Ar123 aq123 aS123 aN123 aH123 aG123 (fits_nar_byte _) W124 6 rfl (Nat.le_of_ble_eq_true rfl)
    refine Goes.on (fun t k => st124 t k) ?_
    show Goes p e below QQ (T124.setTop (mkF m 183 #[iv p1, iv p2, iv p3, .val (.long p4), .second, iv (p1 &&& (3 : Int32)), iv (p2 &&& (2147483647 : Int32)), iv cp, iv 4, iv at', rv b103] []))
    refine Goes.on (fun t k => XS.aload X124.here hx rfl (hb hby at_183) rfl rfl k) ?_
    show Goes p e below QQ (T124.setTop (mkF m 185 #[iv p1, iv p2, iv p3, .val (.long p4), .second, iv (p1 &&& (3 : Int32)), iv (p2 &&& (2147483647 : Int32)), iv cp, iv 4, iv at', rv b103] [(.ref b103)]))
    refine Goes.on (fun t k => XS.bipush X124.here hx rfl (hb hby at_185) k) ?_
    show Goes p e below QQ (T124.setTop (mkF m 187 #[iv p1, iv p2, iv p3, .val (.long p4), .second, iv (p1 &&& (3 : Int32)), iv (p2 &&& (2147483647 : Int32)), iv cp, iv 4, iv at', rv b103] [(.int 7), (.ref b103)]))
    refine Goes.on (fun t k => XS.lloadN X124.here hx rfl (hb hby at_187) rfl k) ?_
    show Goes p e below QQ (T124.setTop (mkF m 188 #[iv p1, iv p2, iv p3, .val (.long p4), .second, iv (p1 &&& (3 : Int32)), iv (p2 &&& (2147483647 : Int32)), iv cp, iv 4, iv at', rv b103] [(.long p4), (.int 7), (.ref b103)]))
    refine Goes.on (fun t k => XS.bipush X124.here hx rfl (hb hby at_188) k) ?_
    show Goes p e below QQ (T124.setTop (mkF m 190 #[iv p1, iv p2, iv p3, .val (.long p4), .second, iv (p1 &&& (3 : Int32)), iv (p2 &&& (2147483647 : Int32)), iv cp, iv 4, iv at', rv b103] [(.int 56), (.long p4), (.int 7), (.ref b103)]))
    refine Goes.on (fun t k => XS.lshr X124.here hx rfl (hb hby at_190) rfl k) ?_
    show Goes p e below QQ (T124.setTop (mkF m 191 #[iv p1, iv p2, iv p3, .val (.long p4), .second, iv (p1 &&& (3 : Int32)), iv (p2 &&& (2147483647 : Int32)), iv cp, iv 4, iv at', rv b103] [(.long (p4 >>> ((56 : Int32) &&& 0x3f).toInt64)), (.int 7), (.ref b103)]))
    refine Goes.on (fun t k => XS.l2i X124.here hx rfl (hb hby at_191) rfl k) ?_
    show Goes p e below QQ (T124.setTop (mkF m 192 #[iv p1, iv p2, iv p3, .val (.long p4), .second, iv (p1 &&& (3 : Int32)), iv (p2 &&& (2147483647 : Int32)), iv cp, iv 4, iv at', rv b103] [(.int (p4 >>> ((56 : Int32) &&& 0x3f).toInt64).toInt32), (.int 7), (.ref b103)]))
    refine Goes.on (fun t k => XS.i2b X124.here hx rfl (hb hby at_192) rfl k) ?_
    show Goes p e below QQ (T124.setTop (mkF m 193 #[iv p1, iv p2, iv p3, .val (.long p4), .second, iv (p1 &&& (3 : Int32)), iv (p2 &&& (2147483647 : Int32)), iv cp, iv 4, iv at', rv b103] [(.int (p4 >>> ((56 : Int32) &&& 0x3f).toInt64).toInt32.toInt8.toInt32), (.int 7), (.ref b103)]))
    obtain ⟨cl126, Ar126, aq126, aS126, aN126, aH126, aG126⟩ := id V_125
    have hin126 := inb_of (j := (7 : Int32)) aS126 ⟨by decide, by decide⟩
    obtain ⟨T127, h127, X127, e127, W127, st127⟩ := stB X124 hx hZ e124 Ar126 (j := (7 : Int32)) hin126 (g := (mkF m 193 #[iv p1, iv p2, iv p3, .val (.long p4), .second, iv (p1 &&& (3 : Int32)), iv (p2 &&& (2147483647 : Int32)), iv cp, iv 4, iv at', rv b103] [(.int (p4 >>> ((56 : Int32) &&& 0x3f).toInt64).toInt32.toInt8.toInt32), (.int 7), (.ref b103)])) rfl rfl (hb hby at_193)
    have K127 := K124.wr W127 (Or.inr sz_b103)
    have N127 := Fr.snoc X127 N124 g_b103
    have V_128 : Arv Z h127 b103 k103 .byte (8 : Int32) [(.int p4.toInt32.toInt8.toInt32.toInt8.toInt32), (.int (p4 >>> ((8 : Int32) &&& 0x3f).toInt64).toInt32.toInt8.toInt32.toInt8.toInt32), (.int (p4 >>> ((16 : Int32) &&& 0x3f).toInt64).toInt32.toInt8.toInt32.toInt8.toInt32), (.int (p4 >>> ((24 : Int32) &&& 0x3f).toInt64).toInt32.toInt8.toInt32.toInt8.toInt32), (.int (p4 >>> ((32 : Int32) &&& 0x3f).toInt64).toInt32.toInt8.toInt32.toInt8.toInt32), (.int (p4 >>> ((40 : Int32) &&& 0x3f).toInt64).toInt32.toInt8.toInt32.toInt8.toInt32), (.int (p4 >>> ((48 : Int32) &&& 0x3f).toInt64).toInt32.toInt8.toInt32.toInt8.toInt32), (.int (p4 >>> ((56 : Int32) &&& 0x3f).toInt64).toInt32.toInt8.toInt32.toInt8.toInt32)] (.int 0) := Arv.set Ar126 aq126 aS126 aN126 aH126 aG126 (fits_nar_byte _) W127 7 rfl (Nat.le_of_ble_eq_true rfl)
    refine Goes.on (fun t k => st127 t k) ?_
    show Goes p e below QQ (T127.setTop (mkF m 194 #[iv p1, iv p2, iv p3, .val (.long p4), .second, iv (p1 &&& (3 : Int32)), iv (p2 &&& (2147483647 : Int32)), iv cp, iv 4, iv at', rv b103] []))
    obtain ⟨vs0, hvs0⟩ : ∃ z : List Value, z = [(.int p4.toInt32.toInt8.toInt32.toInt8.toInt32), (.int (p4 >>> ((8 : Int32) &&& 0x3f).toInt64).toInt32.toInt8.toInt32.toInt8.toInt32), (.int (p4 >>> ((16 : Int32) &&& 0x3f).toInt64).toInt32.toInt8.toInt32.toInt8.toInt32), (.int (p4 >>> ((24 : Int32) &&& 0x3f).toInt64).toInt32.toInt8.toInt32.toInt8.toInt32), (.int (p4 >>> ((32 : Int32) &&& 0x3f).toInt64).toInt32.toInt8.toInt32.toInt8.toInt32), (.int (p4 >>> ((40 : Int32) &&& 0x3f).toInt64).toInt32.toInt8.toInt32.toInt8.toInt32), (.int (p4 >>> ((48 : Int32) &&& 0x3f).toInt64).toInt32.toInt8.toInt32.toInt8.toInt32), (.int (p4 >>> ((56 : Int32) &&& 0x3f).toInt64).toInt32.toInt8.toInt32.toInt8.toInt32)] := ⟨_, rfl⟩
    have V_129 := V_128
    rw [← hvs0] at V_129
    show Goes p e below QQ (T127.setTop (mkF m 194 #[iv p1, iv p2, iv p3, .val (.long p4), .second, iv (p1 &&& (3 : Int32)), iv (p2 &&& (2147483647 : Int32)), iv cp, iv 4, iv at', rv b103] []))
    refine Goes.on (fun t k => XS.iload X127.here hx rfl (hb hby at_194) rfl k) ?_
    show Goes p e below QQ (T127.setTop (mkF m 196 #[iv p1, iv p2, iv p3, .val (.long p4), .second, iv (p1 &&& (3 : Int32)), iv (p2 &&& (2147483647 : Int32)), iv cp, iv 4, iv at', rv b103] [(.int 4)]))
    refine Goes.on (fun t k => XS.iconst X127.here hx rfl (hb hby at_196) k) ?_
    show Goes p e below QQ (T127.setTop (mkF m 197 #[iv p1, iv p2, iv p3, .val (.long p4), .second, iv (p1 &&& (3 : Int32)), iv (p2 &&& (2147483647 : Int32)), iv cp, iv 4, iv at', rv b103] [(.int 1), (.int 4)]))
    refine Goes.on (fun t k => XS.icmpYes X127.here hx rfl (pc0 := 197) (pc' := 211) rfl (hb hby at_197) rfl (feq (by decide)).2 (by decide) (by decide) k) ?_
    show Goes p e below QQ (T127.setTop (mkF m 211 #[iv p1, iv p2, iv p3, .val (.long p4), .second, iv (p1 &&& (3 : Int32)), iv (p2 &&& (2147483647 : Int32)), iv cp, iv 4, iv at', rv b103] []))
    refine Goes.on (fun t k => XS.iload X127.here hx rfl (hb hby at_211) rfl k) ?_
    show Goes p e below QQ (T127.setTop (mkF m 213 #[iv p1, iv p2, iv p3, .val (.long p4), .second, iv (p1 &&& (3 : Int32)), iv (p2 &&& (2147483647 : Int32)), iv cp, iv 4, iv at', rv b103] [(.int 4)]))
    refine Goes.on (fun t k => XS.iconst X127.here hx rfl (hb hby at_213) k) ?_
    show Goes p e below QQ (T127.setTop (mkF m 214 #[iv p1, iv p2, iv p3, .val (.long p4), .second, iv (p1 &&& (3 : Int32)), iv (p2 &&& (2147483647 : Int32)), iv cp, iv 4, iv at', rv b103] [(.int 2), (.int 4)]))
    refine Goes.on (fun t k => XS.icmpYes X127.here hx rfl (pc0 := 214) (pc' := 252) rfl (hb hby at_214) rfl (feq (by decide)).2 (by decide) (by decide) k) ?_
    show Goes p e below QQ (T127.setTop (mkF m 252 #[iv p1, iv p2, iv p3, .val (.long p4), .second, iv (p1 &&& (3 : Int32)), iv (p2 &&& (2147483647 : Int32)), iv cp, iv 4, iv at', rv b103] []))
    refine Goes.on (fun t k => XS.iload X127.here hx rfl (hb hby at_252) rfl k) ?_
    show Goes p e below QQ (T127.setTop (mkF m 254 #[iv p1, iv p2, iv p3, .val (.long p4), .second, iv (p1 &&& (3 : Int32)), iv (p2 &&& (2147483647 : Int32)), iv cp, iv 4, iv at', rv b103] [(.int 4)]))
    refine Goes.on (fun t k => XS.iconst X127.here hx rfl (hb hby at_254) k) ?_
    show Goes p e below QQ (T127.setTop (mkF m 255 #[iv p1, iv p2, iv p3, .val (.long p4), .second, iv (p1 &&& (3 : Int32)), iv (p2 &&& (2147483647 : Int32)), iv cp, iv 4, iv at', rv b103] [(.int 3), (.int 4)]))
    refine Goes.on (fun t k => XS.icmpYes X127.here hx rfl (pc0 := 255) (pc' := 313) rfl (hb hby at_255) rfl (feq (by decide)).2 (by decide) (by decide) k) ?_
    show Goes p e below QQ (T127.setTop (mkF m 313 #[iv p1, iv p2, iv p3, .val (.long p4), .second, iv (p1 &&& (3 : Int32)), iv (p2 &&& (2147483647 : Int32)), iv cp, iv 4, iv at', rv b103] []))
    refine Goes.on (fun t k => XS.aload X127.here hx rfl (hb hby at_313) rfl rfl k) ?_
    show Goes p e below QQ (T127.setTop (mkF m 315 #[iv p1, iv p2, iv p3, .val (.long p4), .second, iv (p1 &&& (3 : Int32)), iv (p2 &&& (2147483647 : Int32)), iv cp, iv 4, iv at', rv b103] [(.ref b103)]))
    refine Goes.on (fun t k => XS.iload X127.here hx rfl (hb hby at_315) rfl k) ?_
    show Goes p e below QQ (T127.setTop (mkF m 317 #[iv p1, iv p2, iv p3, .val (.long p4), .second, iv (p1 &&& (3 : Int32)), iv (p2 &&& (2147483647 : Int32)), iv cp, iv 4, iv at', rv b103] [(.int at'), (.ref b103)]))
    refine Goes.on (fun t k => XS.sipush X127.here hx rfl (hb hby at_317) k) ?_
    show Goes p e below QQ (T127.setTop (mkF m 320 #[iv p1, iv p2, iv p3, .val (.long p4), .second, iv (p1 &&& (3 : Int32)), iv (p2 &&& (2147483647 : Int32)), iv cp, iv 4, iv at', rv b103] [(.int 240), (.int at'), (.ref b103)]))
    refine Goes.on (fun t k => XS.iload X127.here hx rfl (hb hby at_320) rfl k) ?_
    show Goes p e below QQ (T127.setTop (mkF m 322 #[iv p1, iv p2, iv p3, .val (.long p4), .second, iv (p1 &&& (3 : Int32)), iv (p2 &&& (2147483647 : Int32)), iv cp, iv 4, iv at', rv b103] [(.int cp), (.int 240), (.int at'), (.ref b103)]))
    refine Goes.on (fun t k => XS.bipush X127.here hx rfl (hb hby at_322) k) ?_
    show Goes p e below QQ (T127.setTop (mkF m 324 #[iv p1, iv p2, iv p3, .val (.long p4), .second, iv (p1 &&& (3 : Int32)), iv (p2 &&& (2147483647 : Int32)), iv cp, iv 4, iv at', rv b103] [(.int 18), (.int cp), (.int 240), (.int at'), (.ref b103)]))
    refine Goes.on (fun t k => XS.ishr X127.here hx rfl (hb hby at_324) rfl k) ?_
    show Goes p e below QQ (T127.setTop (mkF m 325 #[iv p1, iv p2, iv p3, .val (.long p4), .second, iv (p1 &&& (3 : Int32)), iv (p2 &&& (2147483647 : Int32)), iv cp, iv 4, iv at', rv b103] [(.int (cp >>> ((18 : Int32) &&& 31))), (.int 240), (.int at'), (.ref b103)]))
    refine Goes.on (fun t k => XS.ior X127.here hx rfl (hb hby at_325) rfl k) ?_
    show Goes p e below QQ (T127.setTop (mkF m 326 #[iv p1, iv p2, iv p3, .val (.long p4), .second, iv (p1 &&& (3 : Int32)), iv (p2 &&& (2147483647 : Int32)), iv cp, iv 4, iv at', rv b103] [(.int ((240 : Int32) ||| (cp >>> ((18 : Int32) &&& 31)))), (.int at'), (.ref b103)]))
    refine Goes.on (fun t k => XS.i2b X127.here hx rfl (hb hby at_326) rfl k) ?_
    show Goes p e below QQ (T127.setTop (mkF m 327 #[iv p1, iv p2, iv p3, .val (.long p4), .second, iv (p1 &&& (3 : Int32)), iv (p2 &&& (2147483647 : Int32)), iv cp, iv 4, iv at', rv b103] [(.int ((240 : Int32) ||| (cp >>> ((18 : Int32) &&& 31))).toInt8.toInt32), (.int at'), (.ref b103)]))
    obtain ⟨cl130, Ar130, aq130, aS130, aN130, aH130, aG130⟩ := id V_129
    have hin130 := inb_of (j := at') aS130 (by rcases hv4 with rfl | rfl | rfl | rfl <;> exact ⟨by decide, by decide⟩)
    obtain ⟨T131, h131, X131, e131, W131, st131⟩ := stB X127 hx hZ e127 Ar130 (j := at') hin130 (g := (mkF m 327 #[iv p1, iv p2, iv p3, .val (.long p4), .second, iv (p1 &&& (3 : Int32)), iv (p2 &&& (2147483647 : Int32)), iv cp, iv 4, iv at', rv b103] [(.int ((240 : Int32) ||| (cp >>> ((18 : Int32) &&& 31))).toInt8.toInt32), (.int at'), (.ref b103)])) rfl rfl (hb hby at_327)
    have K131 := K127.wr W131 (Or.inr sz_b103)
    have N131 := Fr.snoc X131 N127 g_b103
    have V_132 : Arv Z h131 b103 k103 .byte (8 : Int32) (vs0.set (at').toNatClampNeg (.int ((240 : Int32) ||| (cp >>> ((18 : Int32) &&& 31))).toInt8.toInt32.toInt8.toInt32)) (.int 0) := Arv.set Ar130 aq130 aS130 aN130 aH130 aG130 (fits_nar_byte _) W131 (at').toNatClampNeg rfl (by (try simp only [List.length_set]); exact (by subst hvs0; rcases hv4 with rfl | rfl | rfl | rfl <;> exact Nat.le_of_ble_eq_true rfl))
    refine Goes.on (fun t k => st131 t k) ?_
    show Goes p e below QQ (T131.setTop (mkF m 328 #[iv p1, iv p2, iv p3, .val (.long p4), .second, iv (p1 &&& (3 : Int32)), iv (p2 &&& (2147483647 : Int32)), iv cp, iv 4, iv at', rv b103] []))
    refine Goes.on (fun t k => XS.aload X131.here hx rfl (hb hby at_328) rfl rfl k) ?_
    show Goes p e below QQ (T131.setTop (mkF m 330 #[iv p1, iv p2, iv p3, .val (.long p4), .second, iv (p1 &&& (3 : Int32)), iv (p2 &&& (2147483647 : Int32)), iv cp, iv 4, iv at', rv b103] [(.ref b103)]))
    refine Goes.on (fun t k => XS.iload X131.here hx rfl (hb hby at_330) rfl k) ?_
    show Goes p e below QQ (T131.setTop (mkF m 332 #[iv p1, iv p2, iv p3, .val (.long p4), .second, iv (p1 &&& (3 : Int32)), iv (p2 &&& (2147483647 : Int32)), iv cp, iv 4, iv at', rv b103] [(.int at'), (.ref b103)]))
    refine Goes.on (fun t k => XS.iconst X131.here hx rfl (hb hby at_332) k) ?_
    show Goes p e below QQ (T131.setTop (mkF m 333 #[iv p1, iv p2, iv p3, .val (.long p4), .second, iv (p1 &&& (3 : Int32)), iv (p2 &&& (2147483647 : Int32)), iv cp, iv 4, iv at', rv b103] [(.int 1), (.int at'), (.ref b103)]))
    refine Goes.on (fun t k => XS.iadd X131.here hx rfl (hb hby at_333) rfl k) ?_
    show Goes p e below QQ (T131.setTop (mkF m 334 #[iv p1, iv p2, iv p3, .val (.long p4), .second, iv (p1 &&& (3 : Int32)), iv (p2 &&& (2147483647 : Int32)), iv cp, iv 4, iv at', rv b103] [(.int (at' + (1 : Int32))), (.ref b103)]))
    refine Goes.on (fun t k => XS.sipush X131.here hx rfl (hb hby at_334) k) ?_
    show Goes p e below QQ (T131.setTop (mkF m 337 #[iv p1, iv p2, iv p3, .val (.long p4), .second, iv (p1 &&& (3 : Int32)), iv (p2 &&& (2147483647 : Int32)), iv cp, iv 4, iv at', rv b103] [(.int 128), (.int (at' + (1 : Int32))), (.ref b103)]))
    refine Goes.on (fun t k => XS.iload X131.here hx rfl (hb hby at_337) rfl k) ?_
    show Goes p e below QQ (T131.setTop (mkF m 339 #[iv p1, iv p2, iv p3, .val (.long p4), .second, iv (p1 &&& (3 : Int32)), iv (p2 &&& (2147483647 : Int32)), iv cp, iv 4, iv at', rv b103] [(.int cp), (.int 128), (.int (at' + (1 : Int32))), (.ref b103)]))
    refine Goes.on (fun t k => XS.bipush X131.here hx rfl (hb hby at_339) k) ?_
    show Goes p e below QQ (T131.setTop (mkF m 341 #[iv p1, iv p2, iv p3, .val (.long p4), .second, iv (p1 &&& (3 : Int32)), iv (p2 &&& (2147483647 : Int32)), iv cp, iv 4, iv at', rv b103] [(.int 12), (.int cp), (.int 128), (.int (at' + (1 : Int32))), (.ref b103)]))
    refine Goes.on (fun t k => XS.ishr X131.here hx rfl (hb hby at_341) rfl k) ?_
    show Goes p e below QQ (T131.setTop (mkF m 342 #[iv p1, iv p2, iv p3, .val (.long p4), .second, iv (p1 &&& (3 : Int32)), iv (p2 &&& (2147483647 : Int32)), iv cp, iv 4, iv at', rv b103] [(.int (cp >>> ((12 : Int32) &&& 31))), (.int 128), (.int (at' + (1 : Int32))), (.ref b103)]))
    refine Goes.on (fun t k => XS.bipush X131.here hx rfl (hb hby at_342) k) ?_
    show Goes p e below QQ (T131.setTop (mkF m 344 #[iv p1, iv p2, iv p3, .val (.long p4), .second, iv (p1 &&& (3 : Int32)), iv (p2 &&& (2147483647 : Int32)), iv cp, iv 4, iv at', rv b103] [(.int 63), (.int (cp >>> ((12 : Int32) &&& 31))), (.int 128), (.int (at' + (1 : Int32))), (.ref b103)]))
    refine Goes.on (fun t k => XS.iand X131.here hx rfl (hb hby at_344) rfl k) ?_
    show Goes p e below QQ (T131.setTop (mkF m 345 #[iv p1, iv p2, iv p3, .val (.long p4), .second, iv (p1 &&& (3 : Int32)), iv (p2 &&& (2147483647 : Int32)), iv cp, iv 4, iv at', rv b103] [(.int ((cp >>> ((12 : Int32) &&& 31)) &&& (63 : Int32))), (.int 128), (.int (at' + (1 : Int32))), (.ref b103)]))
    refine Goes.on (fun t k => XS.ior X131.here hx rfl (hb hby at_345) rfl k) ?_
    show Goes p e below QQ (T131.setTop (mkF m 346 #[iv p1, iv p2, iv p3, .val (.long p4), .second, iv (p1 &&& (3 : Int32)), iv (p2 &&& (2147483647 : Int32)), iv cp, iv 4, iv at', rv b103] [(.int ((128 : Int32) ||| ((cp >>> ((12 : Int32) &&& 31)) &&& (63 : Int32)))), (.int (at' + (1 : Int32))), (.ref b103)]))
    refine Goes.on (fun t k => XS.i2b X131.here hx rfl (hb hby at_346) rfl k) ?_
    show Goes p e below QQ (T131.setTop (mkF m 347 #[iv p1, iv p2, iv p3, .val (.long p4), .second, iv (p1 &&& (3 : Int32)), iv (p2 &&& (2147483647 : Int32)), iv cp, iv 4, iv at', rv b103] [(.int ((128 : Int32) ||| ((cp >>> ((12 : Int32) &&& 31)) &&& (63 : Int32))).toInt8.toInt32), (.int (at' + (1 : Int32))), (.ref b103)]))
    obtain ⟨cl133, Ar133, aq133, aS133, aN133, aH133, aG133⟩ := id V_132
    have hin133 := inb_of (j := (at' + (1 : Int32))) aS133 (by rcases hv4 with rfl | rfl | rfl | rfl <;> exact ⟨by decide, by decide⟩)
    obtain ⟨T134, h134, X134, e134, W134, st134⟩ := stB X131 hx hZ e131 Ar133 (j := (at' + (1 : Int32))) hin133 (g := (mkF m 347 #[iv p1, iv p2, iv p3, .val (.long p4), .second, iv (p1 &&& (3 : Int32)), iv (p2 &&& (2147483647 : Int32)), iv cp, iv 4, iv at', rv b103] [(.int ((128 : Int32) ||| ((cp >>> ((12 : Int32) &&& 31)) &&& (63 : Int32))).toInt8.toInt32), (.int (at' + (1 : Int32))), (.ref b103)])) rfl rfl (hb hby at_347)
    have K134 := K131.wr W134 (Or.inr sz_b103)
    have N134 := Fr.snoc X134 N131 g_b103
    have V_135 : Arv Z h134 b103 k103 .byte (8 : Int32) ((vs0.set (at').toNatClampNeg (.int ((240 : Int32) ||| (cp >>> ((18 : Int32) &&& 31))).toInt8.toInt32.toInt8.toInt32)).set ((at' + (1 : Int32))).toNatClampNeg (.int ((128 : Int32) ||| ((cp >>> ((12 : Int32) &&& 31)) &&& (63 : Int32))).toInt8.toInt32.toInt8.toInt32)) (.int 0) := Arv.set Ar133 aq133 aS133 aN133 aH133 aG133 (fits_nar_byte _) W134 ((at' + (1 : Int32))).toNatClampNeg rfl (by (try simp only [List.length_set]); exact (by subst hvs0; rcases hv4 with rfl | rfl | rfl | rfl <;> exact Nat.le_of_ble_eq_true rfl))
    refine Goes.on (fun t k => st134 t k) ?_
    show Goes p e below QQ (T134.setTop (mkF m 348 #[iv p1, iv p2, iv p3, .val (.long p4), .second, iv (p1 &&& (3 : Int32)), iv (p2 &&& (2147483647 : Int32)), iv cp, iv 4, iv at', rv b103] []))
    refine Goes.on (fun t k => XS.aload X134.here hx rfl (hb hby at_348) rfl rfl k) ?_
    show Goes p e below QQ (T134.setTop (mkF m 350 #[iv p1, iv p2, iv p3, .val (.long p4), .second, iv (p1 &&& (3 : Int32)), iv (p2 &&& (2147483647 : Int32)), iv cp, iv 4, iv at', rv b103] [(.ref b103)]))
    refine Goes.on (fun t k => XS.iload X134.here hx rfl (hb hby at_350) rfl k) ?_
    show Goes p e below QQ (T134.setTop (mkF m 352 #[iv p1, iv p2, iv p3, .val (.long p4), .second, iv (p1 &&& (3 : Int32)), iv (p2 &&& (2147483647 : Int32)), iv cp, iv 4, iv at', rv b103] [(.int at'), (.ref b103)]))
    refine Goes.on (fun t k => XS.iconst X134.here hx rfl (hb hby at_352) k) ?_
    show Goes p e below QQ (T134.setTop (mkF m 353 #[iv p1, iv p2, iv p3, .val (.long p4), .second, iv (p1 &&& (3 : Int32)), iv (p2 &&& (2147483647 : Int32)), iv cp, iv 4, iv at', rv b103] [(.int 2), (.int at'), (.ref b103)]))
    refine Goes.on (fun t k => XS.iadd X134.here hx rfl (hb hby at_353) rfl k) ?_
    show Goes p e below QQ (T134.setTop (mkF m 354 #[iv p1, iv p2, iv p3, .val (.long p4), .second, iv (p1 &&& (3 : Int32)), iv (p2 &&& (2147483647 : Int32)), iv cp, iv 4, iv at', rv b103] [(.int (at' + (2 : Int32))), (.ref b103)]))
    refine Goes.on (fun t k => XS.sipush X134.here hx rfl (hb hby at_354) k) ?_
    show Goes p e below QQ (T134.setTop (mkF m 357 #[iv p1, iv p2, iv p3, .val (.long p4), .second, iv (p1 &&& (3 : Int32)), iv (p2 &&& (2147483647 : Int32)), iv cp, iv 4, iv at', rv b103] [(.int 128), (.int (at' + (2 : Int32))), (.ref b103)]))
    refine Goes.on (fun t k => XS.iload X134.here hx rfl (hb hby at_357) rfl k) ?_
    show Goes p e below QQ (T134.setTop (mkF m 359 #[iv p1, iv p2, iv p3, .val (.long p4), .second, iv (p1 &&& (3 : Int32)), iv (p2 &&& (2147483647 : Int32)), iv cp, iv 4, iv at', rv b103] [(.int cp), (.int 128), (.int (at' + (2 : Int32))), (.ref b103)]))
    refine Goes.on (fun t k => XS.bipush X134.here hx rfl (hb hby at_359) k) ?_
    show Goes p e below QQ (T134.setTop (mkF m 361 #[iv p1, iv p2, iv p3, .val (.long p4), .second, iv (p1 &&& (3 : Int32)), iv (p2 &&& (2147483647 : Int32)), iv cp, iv 4, iv at', rv b103] [(.int 6), (.int cp), (.int 128), (.int (at' + (2 : Int32))), (.ref b103)]))
    refine Goes.on (fun t k => XS.ishr X134.here hx rfl (hb hby at_361) rfl k) ?_
    show Goes p e below QQ (T134.setTop (mkF m 362 #[iv p1, iv p2, iv p3, .val (.long p4), .second, iv (p1 &&& (3 : Int32)), iv (p2 &&& (2147483647 : Int32)), iv cp, iv 4, iv at', rv b103] [(.int (cp >>> ((6 : Int32) &&& 31))), (.int 128), (.int (at' + (2 : Int32))), (.ref b103)]))
    refine Goes.on (fun t k => XS.bipush X134.here hx rfl (hb hby at_362) k) ?_
    show Goes p e below QQ (T134.setTop (mkF m 364 #[iv p1, iv p2, iv p3, .val (.long p4), .second, iv (p1 &&& (3 : Int32)), iv (p2 &&& (2147483647 : Int32)), iv cp, iv 4, iv at', rv b103] [(.int 63), (.int (cp >>> ((6 : Int32) &&& 31))), (.int 128), (.int (at' + (2 : Int32))), (.ref b103)]))
    refine Goes.on (fun t k => XS.iand X134.here hx rfl (hb hby at_364) rfl k) ?_
    show Goes p e below QQ (T134.setTop (mkF m 365 #[iv p1, iv p2, iv p3, .val (.long p4), .second, iv (p1 &&& (3 : Int32)), iv (p2 &&& (2147483647 : Int32)), iv cp, iv 4, iv at', rv b103] [(.int ((cp >>> ((6 : Int32) &&& 31)) &&& (63 : Int32))), (.int 128), (.int (at' + (2 : Int32))), (.ref b103)]))
    refine Goes.on (fun t k => XS.ior X134.here hx rfl (hb hby at_365) rfl k) ?_
    show Goes p e below QQ (T134.setTop (mkF m 366 #[iv p1, iv p2, iv p3, .val (.long p4), .second, iv (p1 &&& (3 : Int32)), iv (p2 &&& (2147483647 : Int32)), iv cp, iv 4, iv at', rv b103] [(.int ((128 : Int32) ||| ((cp >>> ((6 : Int32) &&& 31)) &&& (63 : Int32)))), (.int (at' + (2 : Int32))), (.ref b103)]))
    refine Goes.on (fun t k => XS.i2b X134.here hx rfl (hb hby at_366) rfl k) ?_
    show Goes p e below QQ (T134.setTop (mkF m 367 #[iv p1, iv p2, iv p3, .val (.long p4), .second, iv (p1 &&& (3 : Int32)), iv (p2 &&& (2147483647 : Int32)), iv cp, iv 4, iv at', rv b103] [(.int ((128 : Int32) ||| ((cp >>> ((6 : Int32) &&& 31)) &&& (63 : Int32))).toInt8.toInt32), (.int (at' + (2 : Int32))), (.ref b103)]))
    obtain ⟨cl136, Ar136, aq136, aS136, aN136, aH136, aG136⟩ := id V_135
    have hin136 := inb_of (j := (at' + (2 : Int32))) aS136 (by rcases hv4 with rfl | rfl | rfl | rfl <;> exact ⟨by decide, by decide⟩)
    obtain ⟨T137, h137, X137, e137, W137, st137⟩ := stB X134 hx hZ e134 Ar136 (j := (at' + (2 : Int32))) hin136 (g := (mkF m 367 #[iv p1, iv p2, iv p3, .val (.long p4), .second, iv (p1 &&& (3 : Int32)), iv (p2 &&& (2147483647 : Int32)), iv cp, iv 4, iv at', rv b103] [(.int ((128 : Int32) ||| ((cp >>> ((6 : Int32) &&& 31)) &&& (63 : Int32))).toInt8.toInt32), (.int (at' + (2 : Int32))), (.ref b103)])) rfl rfl (hb hby at_367)
    have K137 := K134.wr W137 (Or.inr sz_b103)
    have N137 := Fr.snoc X137 N134 g_b103
    have V_138 : Arv Z h137 b103 k103 .byte (8 : Int32) (((vs0.set (at').toNatClampNeg (.int ((240 : Int32) ||| (cp >>> ((18 : Int32) &&& 31))).toInt8.toInt32.toInt8.toInt32)).set ((at' + (1 : Int32))).toNatClampNeg (.int ((128 : Int32) ||| ((cp >>> ((12 : Int32) &&& 31)) &&& (63 : Int32))).toInt8.toInt32.toInt8.toInt32)).set ((at' + (2 : Int32))).toNatClampNeg (.int ((128 : Int32) ||| ((cp >>> ((6 : Int32) &&& 31)) &&& (63 : Int32))).toInt8.toInt32.toInt8.toInt32)) (.int 0) := Arv.set Ar136 aq136 aS136 aN136 aH136 aG136 (fits_nar_byte _) W137 ((at' + (2 : Int32))).toNatClampNeg rfl (by (try simp only [List.length_set]); exact (by subst hvs0; rcases hv4 with rfl | rfl | rfl | rfl <;> exact Nat.le_of_ble_eq_true rfl))
    refine Goes.on (fun t k => st137 t k) ?_
    show Goes p e below QQ (T137.setTop (mkF m 368 #[iv p1, iv p2, iv p3, .val (.long p4), .second, iv (p1 &&& (3 : Int32)), iv (p2 &&& (2147483647 : Int32)), iv cp, iv 4, iv at', rv b103] []))
    refine Goes.on (fun t k => XS.aload X137.here hx rfl (hb hby at_368) rfl rfl k) ?_
    show Goes p e below QQ (T137.setTop (mkF m 370 #[iv p1, iv p2, iv p3, .val (.long p4), .second, iv (p1 &&& (3 : Int32)), iv (p2 &&& (2147483647 : Int32)), iv cp, iv 4, iv at', rv b103] [(.ref b103)]))
    refine Goes.on (fun t k => XS.iload X137.here hx rfl (hb hby at_370) rfl k) ?_
    show Goes p e below QQ (T137.setTop (mkF m 372 #[iv p1, iv p2, iv p3, .val (.long p4), .second, iv (p1 &&& (3 : Int32)), iv (p2 &&& (2147483647 : Int32)), iv cp, iv 4, iv at', rv b103] [(.int at'), (.ref b103)]))
    refine Goes.on (fun t k => XS.iconst X137.here hx rfl (hb hby at_372) k) ?_
    show Goes p e below QQ (T137.setTop (mkF m 373 #[iv p1, iv p2, iv p3, .val (.long p4), .second, iv (p1 &&& (3 : Int32)), iv (p2 &&& (2147483647 : Int32)), iv cp, iv 4, iv at', rv b103] [(.int 3), (.int at'), (.ref b103)]))
    refine Goes.on (fun t k => XS.iadd X137.here hx rfl (hb hby at_373) rfl k) ?_
    show Goes p e below QQ (T137.setTop (mkF m 374 #[iv p1, iv p2, iv p3, .val (.long p4), .second, iv (p1 &&& (3 : Int32)), iv (p2 &&& (2147483647 : Int32)), iv cp, iv 4, iv at', rv b103] [(.int (at' + (3 : Int32))), (.ref b103)]))
    refine Goes.on (fun t k => XS.sipush X137.here hx rfl (hb hby at_374) k) ?_
    show Goes p e below QQ (T137.setTop (mkF m 377 #[iv p1, iv p2, iv p3, .val (.long p4), .second, iv (p1 &&& (3 : Int32)), iv (p2 &&& (2147483647 : Int32)), iv cp, iv 4, iv at', rv b103] [(.int 128), (.int (at' + (3 : Int32))), (.ref b103)]))
    refine Goes.on (fun t k => XS.iload X137.here hx rfl (hb hby at_377) rfl k) ?_
    show Goes p e below QQ (T137.setTop (mkF m 379 #[iv p1, iv p2, iv p3, .val (.long p4), .second, iv (p1 &&& (3 : Int32)), iv (p2 &&& (2147483647 : Int32)), iv cp, iv 4, iv at', rv b103] [(.int cp), (.int 128), (.int (at' + (3 : Int32))), (.ref b103)]))
    refine Goes.on (fun t k => XS.bipush X137.here hx rfl (hb hby at_379) k) ?_
    show Goes p e below QQ (T137.setTop (mkF m 381 #[iv p1, iv p2, iv p3, .val (.long p4), .second, iv (p1 &&& (3 : Int32)), iv (p2 &&& (2147483647 : Int32)), iv cp, iv 4, iv at', rv b103] [(.int 63), (.int cp), (.int 128), (.int (at' + (3 : Int32))), (.ref b103)]))
    refine Goes.on (fun t k => XS.iand X137.here hx rfl (hb hby at_381) rfl k) ?_
    show Goes p e below QQ (T137.setTop (mkF m 382 #[iv p1, iv p2, iv p3, .val (.long p4), .second, iv (p1 &&& (3 : Int32)), iv (p2 &&& (2147483647 : Int32)), iv cp, iv 4, iv at', rv b103] [(.int (cp &&& (63 : Int32))), (.int 128), (.int (at' + (3 : Int32))), (.ref b103)]))
    refine Goes.on (fun t k => XS.ior X137.here hx rfl (hb hby at_382) rfl k) ?_
    show Goes p e below QQ (T137.setTop (mkF m 383 #[iv p1, iv p2, iv p3, .val (.long p4), .second, iv (p1 &&& (3 : Int32)), iv (p2 &&& (2147483647 : Int32)), iv cp, iv 4, iv at', rv b103] [(.int ((128 : Int32) ||| (cp &&& (63 : Int32)))), (.int (at' + (3 : Int32))), (.ref b103)]))
    refine Goes.on (fun t k => XS.i2b X137.here hx rfl (hb hby at_383) rfl k) ?_
    show Goes p e below QQ (T137.setTop (mkF m 384 #[iv p1, iv p2, iv p3, .val (.long p4), .second, iv (p1 &&& (3 : Int32)), iv (p2 &&& (2147483647 : Int32)), iv cp, iv 4, iv at', rv b103] [(.int ((128 : Int32) ||| (cp &&& (63 : Int32))).toInt8.toInt32), (.int (at' + (3 : Int32))), (.ref b103)]))
    obtain ⟨cl139, Ar139, aq139, aS139, aN139, aH139, aG139⟩ := id V_138
    have hin139 := inb_of (j := (at' + (3 : Int32))) aS139 (by rcases hv4 with rfl | rfl | rfl | rfl <;> exact ⟨by decide, by decide⟩)
    obtain ⟨T140, h140, X140, e140, W140, st140⟩ := stB X137 hx hZ e137 Ar139 (j := (at' + (3 : Int32))) hin139 (g := (mkF m 384 #[iv p1, iv p2, iv p3, .val (.long p4), .second, iv (p1 &&& (3 : Int32)), iv (p2 &&& (2147483647 : Int32)), iv cp, iv 4, iv at', rv b103] [(.int ((128 : Int32) ||| (cp &&& (63 : Int32))).toInt8.toInt32), (.int (at' + (3 : Int32))), (.ref b103)])) rfl rfl (hb hby at_384)
    have K140 := K137.wr W140 (Or.inr sz_b103)
    have N140 := Fr.snoc X140 N137 g_b103
    have V_141 : Arv Z h140 b103 k103 .byte (8 : Int32) ((((vs0.set (at').toNatClampNeg (.int ((240 : Int32) ||| (cp >>> ((18 : Int32) &&& 31))).toInt8.toInt32.toInt8.toInt32)).set ((at' + (1 : Int32))).toNatClampNeg (.int ((128 : Int32) ||| ((cp >>> ((12 : Int32) &&& 31)) &&& (63 : Int32))).toInt8.toInt32.toInt8.toInt32)).set ((at' + (2 : Int32))).toNatClampNeg (.int ((128 : Int32) ||| ((cp >>> ((6 : Int32) &&& 31)) &&& (63 : Int32))).toInt8.toInt32.toInt8.toInt32)).set ((at' + (3 : Int32))).toNatClampNeg (.int ((128 : Int32) ||| (cp &&& (63 : Int32))).toInt8.toInt32.toInt8.toInt32)) (.int 0) := Arv.set Ar139 aq139 aS139 aN139 aH139 aG139 (fits_nar_byte _) W140 ((at' + (3 : Int32))).toNatClampNeg rfl (by (try simp only [List.length_set]); exact (by subst hvs0; rcases hv4 with rfl | rfl | rfl | rfl <;> exact Nat.le_of_ble_eq_true rfl))
    refine Goes.on (fun t k => st140 t k) ?_
    show Goes p e below QQ (T140.setTop (mkF m 385 #[iv p1, iv p2, iv p3, .val (.long p4), .second, iv (p1 &&& (3 : Int32)), iv (p2 &&& (2147483647 : Int32)), iv cp, iv 4, iv at', rv b103] []))
    refine Goes.on (fun t k => XS.aload X140.here hx rfl (hb hby at_385) rfl rfl k) ?_
    show Goes p e below QQ (T140.setTop (mkF m 387 #[iv p1, iv p2, iv p3, .val (.long p4), .second, iv (p1 &&& (3 : Int32)), iv (p2 &&& (2147483647 : Int32)), iv cp, iv 4, iv at', rv b103] [(.ref b103)]))
    refine Goes.on (fun t k => XS.iload X140.here hx rfl (hb hby at_387) rfl k) ?_
    show Goes p e below QQ (T140.setTop (mkF m 389 #[iv p1, iv p2, iv p3, .val (.long p4), .second, iv (p1 &&& (3 : Int32)), iv (p2 &&& (2147483647 : Int32)), iv cp, iv 4, iv at', rv b103] [(.int at'), (.ref b103)]))
    obtain ⟨_, _, ⟨T142, L142, k142, n142⟩, -, X142, ⟨Lc142, hQ142, l142, y142, z142⟩, st142⟩ := Jvm.LawKit.callS X140 hx (y := (⟨"com/example/sober_links/soberlinks/io/Utf8", "codePointAt", "([BI)I"⟩ : MethodName)) hown (mvT hZ (hw _ (List.mem_of_getElem? (i := 2) rfl))) (mvT hZ (hw _ (List.mem_of_getElem? (i := 3) rfl))) (mvT hZ (hw _ (List.mem_of_getElem? (i := 4) rfl))) (mvT hZ (hw _ (List.mem_of_getElem? (i := 5) rfl))) (by decide) (backOf (W := 0) (rm1_4 l Z a0 hw [] b103 at' k103 (8 : Int32) ((((vs0.set (at').toNatClampNeg (.int ((240 : Int32) ||| (cp >>> ((18 : Int32) &&& 31))).toInt8.toInt32.toInt8.toInt32)).set ((at' + (1 : Int32))).toNatClampNeg (.int ((128 : Int32) ||| ((cp >>> ((12 : Int32) &&& 31)) &&& (63 : Int32))).toInt8.toInt32.toInt8.toInt32)).set ((at' + (2 : Int32))).toNatClampNeg (.int ((128 : Int32) ||| ((cp >>> ((6 : Int32) &&& 31)) &&& (63 : Int32))).toInt8.toInt32.toInt8.toInt32)).set ((at' + (3 : Int32))).toNatClampNeg (.int ((128 : Int32) ||| (cp &&& (63 : Int32))).toInt8.toInt32.toInt8.toInt32)) (((240 : Int32) ||| (cp >>> ((18 : Int32) &&& 31))).toInt8.toInt32.toInt8.toInt32) (((128 : Int32) ||| ((cp >>> ((12 : Int32) &&& 31)) &&& (63 : Int32))).toInt8.toInt32.toInt8.toInt32) (((128 : Int32) ||| ((cp >>> ((6 : Int32) &&& 31)) &&& (63 : Int32))).toInt8.toInt32.toInt8.toInt32) (((128 : Int32) ||| (cp &&& (63 : Int32))).toInt8.toInt32.toInt8.toInt32) h140 n0 (Nat.le_trans Z0 K140.1) V_141 (by rcases hv4 with rfl | rfl | rfl | rfl <;> exact ⟨by decide, by decide⟩) (by subst hvs0; rcases hv4 with rfl | rfl | rfl | rfl <;> rfl) (by rcases hv4 with rfl | rfl | rfl | rfl <;> exact ⟨by decide, by decide⟩) (by subst hvs0; rcases hv4 with rfl | rfl | rfl | rfl <;> rfl) (by rcases hv4 with rfl | rfl | rfl | rfl <;> exact ⟨by decide, by decide⟩) (by subst hvs0; rcases hv4 with rfl | rfl | rfl | rfl <;> rfl) (by rcases hv4 with rfl | rfl | rfl | rfl <;> exact ⟨by decide, by decide⟩) (by subst hvs0; rcases hv4 with rfl | rfl | rfl | rfl <;> rfl) (own_lead4_0 cp hcp) (own_lead4_1 cp hcp) (own_lead4_2 cp hcp)) hZ (hw _ (List.mem_of_getElem? (i := 5) rfl)) (hw _ (List.mem_of_getElem? (i := 4) rfl)) (by decide) (by decide)) (g := (mkF m 389 #[iv p1, iv p2, iv p3, .val (.long p4), .second, iv (p1 &&& (3 : Int32)), iv (p2 &&& (2147483647 : Int32)), iv cp, iv 4, iv at', rv b103] [(.int at'), (.ref b103)])) rfl (by rw [hml]; rfl) (argsL := [(.ref b103), (.int at')]) (rest := []) (lenOf pd_0 rfl) rfl (by show 2 * 0 + _ ≤ _; exact Nat.le_of_eq rfl) (hb hby at_389) (fun _ _ => ⟨rfl, e140, (by decide : 1 + 0 ≤ _), (by decide : 8 + 0 ≤ _)⟩)
    dsimp only [Pt.U, Pt.locs, Pt.cells, Pt.slots] at X142 l142 y142 z142 st142 hQ142
    subst l142 y142 z142
    obtain ⟨rfl, M142, e142⟩ := hQ142
    have N142 := Fr.app N140 M142
    refine Goes.on (fun t k => st142 _ k) ?_
    show Goes p e below QQ (T142.setTop (mkF m 392 #[iv p1, iv p2, iv p3, .val (.long p4), .second, iv (p1 &&& (3 : Int32)), iv (p2 &&& (2147483647 : Int32)), iv cp, iv 4, iv at', rv b103] [(.int ((((((((((240 : Int32) ||| (cp >>> ((18 : Int32) &&& 31))).toInt8.toInt32.toInt8.toInt32 &&& (255 : Int32)) &&& (7 : Int32)) <<< ((6 : Int32) &&& 31)) ||| (((128 : Int32) ||| ((cp >>> ((12 : Int32) &&& 31)) &&& (63 : Int32))).toInt8.toInt32.toInt8.toInt32 &&& (63 : Int32))) <<< ((6 : Int32) &&& 31)) ||| (((128 : Int32) ||| ((cp >>> ((6 : Int32) &&& 31)) &&& (63 : Int32))).toInt8.toInt32.toInt8.toInt32 &&& (63 : Int32))) <<< ((6 : Int32) &&& 31)) ||| (((128 : Int32) ||| (cp &&& (63 : Int32))).toInt8.toInt32.toInt8.toInt32 &&& (63 : Int32))))]))
    refine Goes.on (fun t k => XS.iload X142.here hx rfl (hb hby at_392) rfl k) ?_
    show Goes p e below QQ (T142.setTop (mkF m 394 #[iv p1, iv p2, iv p3, .val (.long p4), .second, iv (p1 &&& (3 : Int32)), iv (p2 &&& (2147483647 : Int32)), iv cp, iv 4, iv at', rv b103] [(.int cp), (.int ((((((((((240 : Int32) ||| (cp >>> ((18 : Int32) &&& 31))).toInt8.toInt32.toInt8.toInt32 &&& (255 : Int32)) &&& (7 : Int32)) <<< ((6 : Int32) &&& 31)) ||| (((128 : Int32) ||| ((cp >>> ((12 : Int32) &&& 31)) &&& (63 : Int32))).toInt8.toInt32.toInt8.toInt32 &&& (63 : Int32))) <<< ((6 : Int32) &&& 31)) ||| (((128 : Int32) ||| ((cp >>> ((6 : Int32) &&& 31)) &&& (63 : Int32))).toInt8.toInt32.toInt8.toInt32 &&& (63 : Int32))) <<< ((6 : Int32) &&& 31)) ||| (((128 : Int32) ||| (cp &&& (63 : Int32))).toInt8.toInt32.toInt8.toInt32 &&& (63 : Int32))))]))
    refine Goes.on (fun t k => XS.icmpNo X142.here hx rfl (hb hby at_394) rfl (teq (own_dec4 cp hcp)).2 k) ?_
    show Goes p e below QQ (T142.setTop (mkF m 397 #[iv p1, iv p2, iv p3, .val (.long p4), .second, iv (p1 &&& (3 : Int32)), iv (p2 &&& (2147483647 : Int32)), iv cp, iv 4, iv at', rv b103] []))
    refine Goes.on (fun t k => XS.iconst X142.here hx rfl (hb hby at_397) k) ?_
    show Goes p e below QQ (T142.setTop (mkF m 398 #[iv p1, iv p2, iv p3, .val (.long p4), .second, iv (p1 &&& (3 : Int32)), iv (p2 &&& (2147483647 : Int32)), iv cp, iv 4, iv at', rv b103] [(.int 1)]))
    refine Goes.on (fun t k => XS.goto X142.here hx rfl (pc0 := 398) (pc' := 402) rfl (hb hby at_398) (by decide) (by decide) k) ?_
    show Goes p e below QQ (T142.setTop (mkF m 402 #[iv p1, iv p2, iv p3, .val (.long p4), .second, iv (p1 &&& (3 : Int32)), iv (p2 &&& (2147483647 : Int32)), iv cp, iv 4, iv at', rv b103] [(.int 1)]))
    exact Goes.rN X142 hx (t := .boolean) hret (by simp) hlk (hb hby at_402) hQQ ⟨rfl, N142⟩ (by decide) (by decide)
  show Goes p e below QQ (s₁.setTop (mkF m 0 #[iv p1, iv p2, iv p3, .val (.long p4), .second, .unset, .unset, .unset, .unset, .unset, .unset] []))
  refine Goes.on (fun t k => XS.iloadN X0.here hx rfl (hb hby at_0) rfl k) ?_
  show Goes p e below QQ (s₁.setTop (mkF m 1 #[iv p1, iv p2, iv p3, .val (.long p4), .second, .unset, .unset, .unset, .unset, .unset, .unset] [(.int p1)]))
  refine Goes.on (fun t k => XS.iconst X0.here hx rfl (hb hby at_1) k) ?_
  show Goes p e below QQ (s₁.setTop (mkF m 2 #[iv p1, iv p2, iv p3, .val (.long p4), .second, .unset, .unset, .unset, .unset, .unset, .unset] [(.int 3), (.int p1)]))
  refine Goes.on (fun t k => XS.iand X0.here hx rfl (hb hby at_2) rfl k) ?_
  show Goes p e below QQ (s₁.setTop (mkF m 3 #[iv p1, iv p2, iv p3, .val (.long p4), .second, .unset, .unset, .unset, .unset, .unset, .unset] [(.int (p1 &&& (3 : Int32)))]))
  refine Goes.on (fun t k => XS.istore X0.here hx rfl (hb hby at_3) rfl (l' := #[iv p1, iv p2, iv p3, .val (.long p4), .second, iv (p1 &&& (3 : Int32)), .unset, .unset, .unset, .unset, .unset]) rfl k) ?_
  show Goes p e below QQ (s₁.setTop (mkF m 5 #[iv p1, iv p2, iv p3, .val (.long p4), .second, iv (p1 &&& (3 : Int32)), .unset, .unset, .unset, .unset, .unset] []))
  refine Goes.on (fun t k => XS.iloadN X0.here hx rfl (hb hby at_5) rfl k) ?_
  show Goes p e below QQ (s₁.setTop (mkF m 6 #[iv p1, iv p2, iv p3, .val (.long p4), .second, iv (p1 &&& (3 : Int32)), .unset, .unset, .unset, .unset, .unset] [(.int p2)]))
  refine Goes.on (fun t k => X0.ldcInt hx hown (mvT hZ (hw _ (List.mem_of_getElem? (i := 0) rfl))) (g := (mkF m 6 #[iv p1, iv p2, iv p3, .val (.long p4), .second, iv (p1 &&& (3 : Int32)), .unset, .unset, .unset, .unset, .unset] [(.int p2)])) rfl (hb hby at_6) t k) ?_
  show Goes p e below QQ (s₁.setTop (mkF m 8 #[iv p1, iv p2, iv p3, .val (.long p4), .second, iv (p1 &&& (3 : Int32)), .unset, .unset, .unset, .unset, .unset] [(.int 2147483647), (.int p2)]))
  refine Goes.on (fun t k => XS.iand X0.here hx rfl (hb hby at_8) rfl k) ?_
  show Goes p e below QQ (s₁.setTop (mkF m 9 #[iv p1, iv p2, iv p3, .val (.long p4), .second, iv (p1 &&& (3 : Int32)), .unset, .unset, .unset, .unset, .unset] [(.int (p2 &&& (2147483647 : Int32)))]))
  refine Goes.on (fun t k => XS.istore X0.here hx rfl (hb hby at_9) rfl (l' := #[iv p1, iv p2, iv p3, .val (.long p4), .second, iv (p1 &&& (3 : Int32)), iv (p2 &&& (2147483647 : Int32)), .unset, .unset, .unset, .unset]) rfl k) ?_
  show Goes p e below QQ (s₁.setTop (mkF m 11 #[iv p1, iv p2, iv p3, .val (.long p4), .second, iv (p1 &&& (3 : Int32)), iv (p2 &&& (2147483647 : Int32)), .unset, .unset, .unset, .unset] []))
  refine Goes.on (fun t k => XS.iload X0.here hx rfl (hb hby at_11) rfl k) ?_
  show Goes p e below QQ (s₁.setTop (mkF m 13 #[iv p1, iv p2, iv p3, .val (.long p4), .second, iv (p1 &&& (3 : Int32)), iv (p2 &&& (2147483647 : Int32)), .unset, .unset, .unset, .unset] [(.int (p1 &&& (3 : Int32)))]))
  by_cases hb143 : (p1 &&& (3 : Int32)) = (0 : Int32)
  · refine Goes.on (fun t k => XS.ifNo X0.here hx rfl (hb hby at_13) rfl ((if0 _ _).trans (teq hb143).2) k) ?_
    show Goes p e below QQ (s₁.setTop (mkF m 16 #[iv p1, iv p2, iv p3, .val (.long p4), .second, iv (p1 &&& (3 : Int32)), iv (p2 &&& (2147483647 : Int32)), .unset, .unset, .unset, .unset] []))
    refine Goes.on (fun t k => XS.iload X0.here hx rfl (hb hby at_16) rfl k) ?_
    show Goes p e below QQ (s₁.setTop (mkF m 18 #[iv p1, iv p2, iv p3, .val (.long p4), .second, iv (p1 &&& (3 : Int32)), iv (p2 &&& (2147483647 : Int32)), .unset, .unset, .unset, .unset] [(.int (p2 &&& (2147483647 : Int32)))]))
    refine Goes.on (fun t k => XS.bipush X0.here hx rfl (hb hby at_18) k) ?_
    show Goes p e below QQ (s₁.setTop (mkF m 20 #[iv p1, iv p2, iv p3, .val (.long p4), .second, iv (p1 &&& (3 : Int32)), iv (p2 &&& (2147483647 : Int32)), .unset, .unset, .unset, .unset] [(.int 127), (.int (p2 &&& (2147483647 : Int32)))]))
    refine Goes.on (fun t k => XS.iand X0.here hx rfl (hb hby at_20) rfl k) ?_
    show Goes p e below QQ (s₁.setTop (mkF m 21 #[iv p1, iv p2, iv p3, .val (.long p4), .second, iv (p1 &&& (3 : Int32)), iv (p2 &&& (2147483647 : Int32)), .unset, .unset, .unset, .unset] [(.int ((p2 &&& (2147483647 : Int32)) &&& (127 : Int32)))]))
    refine Goes.on (fun t k => XS.istore X0.here hx rfl (hb hby at_21) rfl (l' := #[iv p1, iv p2, iv p3, .val (.long p4), .second, iv (p1 &&& (3 : Int32)), iv (p2 &&& (2147483647 : Int32)), iv ((p2 &&& (2147483647 : Int32)) &&& (127 : Int32)), .unset, .unset, .unset]) rfl k) ?_
    show Goes p e below QQ (s₁.setTop (mkF m 23 #[iv p1, iv p2, iv p3, .val (.long p4), .second, iv (p1 &&& (3 : Int32)), iv (p2 &&& (2147483647 : Int32)), iv ((p2 &&& (2147483647 : Int32)) &&& (127 : Int32)), .unset, .unset, .unset] []))
    refine Goes.on (fun t k => XS.iconst X0.here hx rfl (hb hby at_23) k) ?_
    show Goes p e below QQ (s₁.setTop (mkF m 24 #[iv p1, iv p2, iv p3, .val (.long p4), .second, iv (p1 &&& (3 : Int32)), iv (p2 &&& (2147483647 : Int32)), iv ((p2 &&& (2147483647 : Int32)) &&& (127 : Int32)), .unset, .unset, .unset] [(.int 1)]))
    refine Goes.on (fun t k => XS.istore X0.here hx rfl (hb hby at_24) rfl (l' := #[iv p1, iv p2, iv p3, .val (.long p4), .second, iv (p1 &&& (3 : Int32)), iv (p2 &&& (2147483647 : Int32)), iv ((p2 &&& (2147483647 : Int32)) &&& (127 : Int32)), iv 1, .unset, .unset]) rfl k) ?_
    show Goes p e below QQ (s₁.setTop (mkF m 26 #[iv p1, iv p2, iv p3, .val (.long p4), .second, iv (p1 &&& (3 : Int32)), iv (p2 &&& (2147483647 : Int32)), iv ((p2 &&& (2147483647 : Int32)) &&& (127 : Int32)), iv 1, .unset, .unset] []))
    refine Goes.on (fun t k => XS.goto X0.here hx rfl (pc0 := 26) (pc' := 104) rfl (hb hby at_26) (by decide) (by decide) k) ?_
    show Goes p e below QQ (s₁.setTop (mkF m 104 #[iv p1, iv p2, iv p3, .val (.long p4), .second, iv (p1 &&& (3 : Int32)), iv (p2 &&& (2147483647 : Int32)), iv ((p2 &&& (2147483647 : Int32)) &&& (127 : Int32)), iv 1, .unset, .unset] []))
    exact J1 _ (own_rng1 _ )
  · refine Goes.on (fun t k => XS.ifYes X0.here hx rfl (pc0 := 13) (pc' := 29) rfl (hb hby at_13) rfl ((if0 _ _).trans (feq hb143).2) (by decide) (by decide) k) ?_
    show Goes p e below QQ (s₁.setTop (mkF m 29 #[iv p1, iv p2, iv p3, .val (.long p4), .second, iv (p1 &&& (3 : Int32)), iv (p2 &&& (2147483647 : Int32)), .unset, .unset, .unset, .unset] []))
    refine Goes.on (fun t k => XS.iload X0.here hx rfl (hb hby at_29) rfl k) ?_
    show Goes p e below QQ (s₁.setTop (mkF m 31 #[iv p1, iv p2, iv p3, .val (.long p4), .second, iv (p1 &&& (3 : Int32)), iv (p2 &&& (2147483647 : Int32)), .unset, .unset, .unset, .unset] [(.int (p1 &&& (3 : Int32)))]))
    refine Goes.on (fun t k => XS.iconst X0.here hx rfl (hb hby at_31) k) ?_
    show Goes p e below QQ (s₁.setTop (mkF m 32 #[iv p1, iv p2, iv p3, .val (.long p4), .second, iv (p1 &&& (3 : Int32)), iv (p2 &&& (2147483647 : Int32)), .unset, .unset, .unset, .unset] [(.int 1), (.int (p1 &&& (3 : Int32)))]))
    by_cases hb144 : (p1 &&& (3 : Int32)) = (1 : Int32)
    · refine Goes.on (fun t k => XS.icmpNo X0.here hx rfl (hb hby at_32) rfl (teq hb144).2 k) ?_
      show Goes p e below QQ (s₁.setTop (mkF m 35 #[iv p1, iv p2, iv p3, .val (.long p4), .second, iv (p1 &&& (3 : Int32)), iv (p2 &&& (2147483647 : Int32)), .unset, .unset, .unset, .unset] []))
      refine Goes.on (fun t k => XS.sipush X0.here hx rfl (hb hby at_35) k) ?_
      show Goes p e below QQ (s₁.setTop (mkF m 38 #[iv p1, iv p2, iv p3, .val (.long p4), .second, iv (p1 &&& (3 : Int32)), iv (p2 &&& (2147483647 : Int32)), .unset, .unset, .unset, .unset] [(.int 128)]))
      refine Goes.on (fun t k => XS.iload X0.here hx rfl (hb hby at_38) rfl k) ?_
      show Goes p e below QQ (s₁.setTop (mkF m 40 #[iv p1, iv p2, iv p3, .val (.long p4), .second, iv (p1 &&& (3 : Int32)), iv (p2 &&& (2147483647 : Int32)), .unset, .unset, .unset, .unset] [(.int (p2 &&& (2147483647 : Int32))), (.int 128)]))
      refine Goes.on (fun t k => XS.sipush X0.here hx rfl (hb hby at_40) k) ?_
      show Goes p e below QQ (s₁.setTop (mkF m 43 #[iv p1, iv p2, iv p3, .val (.long p4), .second, iv (p1 &&& (3 : Int32)), iv (p2 &&& (2147483647 : Int32)), .unset, .unset, .unset, .unset] [(.int 1920), (.int (p2 &&& (2147483647 : Int32))), (.int 128)]))
      refine Goes.on (fun t k => iremM X0 hx rfl (hb hby at_43) rfl (by decide) k) ?_
      show Goes p e below QQ (s₁.setTop (mkF m 44 #[iv p1, iv p2, iv p3, .val (.long p4), .second, iv (p1 &&& (3 : Int32)), iv (p2 &&& (2147483647 : Int32)), .unset, .unset, .unset, .unset] [(.int ((p2 &&& (2147483647 : Int32)) % (1920 : Int32))), (.int 128)]))
      refine Goes.on (fun t k => XS.iadd X0.here hx rfl (hb hby at_44) rfl k) ?_
      show Goes p e below QQ (s₁.setTop (mkF m 45 #[iv p1, iv p2, iv p3, .val (.long p4), .second, iv (p1 &&& (3 : Int32)), iv (p2 &&& (2147483647 : Int32)), .unset, .unset, .unset, .unset] [(.int ((128 : Int32) + ((p2 &&& (2147483647 : Int32)) % (1920 : Int32))))]))
      refine Goes.on (fun t k => XS.istore X0.here hx rfl (hb hby at_45) rfl (l' := #[iv p1, iv p2, iv p3, .val (.long p4), .second, iv (p1 &&& (3 : Int32)), iv (p2 &&& (2147483647 : Int32)), iv ((128 : Int32) + ((p2 &&& (2147483647 : Int32)) % (1920 : Int32))), .unset, .unset, .unset]) rfl k) ?_
      show Goes p e below QQ (s₁.setTop (mkF m 47 #[iv p1, iv p2, iv p3, .val (.long p4), .second, iv (p1 &&& (3 : Int32)), iv (p2 &&& (2147483647 : Int32)), iv ((128 : Int32) + ((p2 &&& (2147483647 : Int32)) % (1920 : Int32))), .unset, .unset, .unset] []))
      refine Goes.on (fun t k => XS.iconst X0.here hx rfl (hb hby at_47) k) ?_
      show Goes p e below QQ (s₁.setTop (mkF m 48 #[iv p1, iv p2, iv p3, .val (.long p4), .second, iv (p1 &&& (3 : Int32)), iv (p2 &&& (2147483647 : Int32)), iv ((128 : Int32) + ((p2 &&& (2147483647 : Int32)) % (1920 : Int32))), .unset, .unset, .unset] [(.int 2)]))
      refine Goes.on (fun t k => XS.istore X0.here hx rfl (hb hby at_48) rfl (l' := #[iv p1, iv p2, iv p3, .val (.long p4), .second, iv (p1 &&& (3 : Int32)), iv (p2 &&& (2147483647 : Int32)), iv ((128 : Int32) + ((p2 &&& (2147483647 : Int32)) % (1920 : Int32))), iv 2, .unset, .unset]) rfl k) ?_
      show Goes p e below QQ (s₁.setTop (mkF m 50 #[iv p1, iv p2, iv p3, .val (.long p4), .second, iv (p1 &&& (3 : Int32)), iv (p2 &&& (2147483647 : Int32)), iv ((128 : Int32) + ((p2 &&& (2147483647 : Int32)) % (1920 : Int32))), iv 2, .unset, .unset] []))
      refine Goes.on (fun t k => XS.goto X0.here hx rfl (pc0 := 50) (pc' := 104) rfl (hb hby at_50) (by decide) (by decide) k) ?_
      show Goes p e below QQ (s₁.setTop (mkF m 104 #[iv p1, iv p2, iv p3, .val (.long p4), .second, iv (p1 &&& (3 : Int32)), iv (p2 &&& (2147483647 : Int32)), iv ((128 : Int32) + ((p2 &&& (2147483647 : Int32)) % (1920 : Int32))), iv 2, .unset, .unset] []))
      exact J2 _ (own_rng2 _ )
    · refine Goes.on (fun t k => XS.icmpYes X0.here hx rfl (pc0 := 32) (pc' := 53) rfl (hb hby at_32) rfl (feq hb144).2 (by decide) (by decide) k) ?_
      show Goes p e below QQ (s₁.setTop (mkF m 53 #[iv p1, iv p2, iv p3, .val (.long p4), .second, iv (p1 &&& (3 : Int32)), iv (p2 &&& (2147483647 : Int32)), .unset, .unset, .unset, .unset] []))
      refine Goes.on (fun t k => XS.iload X0.here hx rfl (hb hby at_53) rfl k) ?_
      show Goes p e below QQ (s₁.setTop (mkF m 55 #[iv p1, iv p2, iv p3, .val (.long p4), .second, iv (p1 &&& (3 : Int32)), iv (p2 &&& (2147483647 : Int32)), .unset, .unset, .unset, .unset] [(.int (p1 &&& (3 : Int32)))]))
      refine Goes.on (fun t k => XS.iconst X0.here hx rfl (hb hby at_55) k) ?_
      show Goes p e below QQ (s₁.setTop (mkF m 56 #[iv p1, iv p2, iv p3, .val (.long p4), .second, iv (p1 &&& (3 : Int32)), iv (p2 &&& (2147483647 : Int32)), .unset, .unset, .unset, .unset] [(.int 2), (.int (p1 &&& (3 : Int32)))]))
      by_cases hb145 : (p1 &&& (3 : Int32)) = (2 : Int32)
      · refine Goes.on (fun t k => XS.icmpNo X0.here hx rfl (hb hby at_56) rfl (teq hb145).2 k) ?_
        show Goes p e below QQ (s₁.setTop (mkF m 59 #[iv p1, iv p2, iv p3, .val (.long p4), .second, iv (p1 &&& (3 : Int32)), iv (p2 &&& (2147483647 : Int32)), .unset, .unset, .unset, .unset] []))
        refine Goes.on (fun t k => XS.sipush X0.here hx rfl (hb hby at_59) k) ?_
        show Goes p e below QQ (s₁.setTop (mkF m 62 #[iv p1, iv p2, iv p3, .val (.long p4), .second, iv (p1 &&& (3 : Int32)), iv (p2 &&& (2147483647 : Int32)), .unset, .unset, .unset, .unset] [(.int 2048)]))
        refine Goes.on (fun t k => XS.iload X0.here hx rfl (hb hby at_62) rfl k) ?_
        show Goes p e below QQ (s₁.setTop (mkF m 64 #[iv p1, iv p2, iv p3, .val (.long p4), .second, iv (p1 &&& (3 : Int32)), iv (p2 &&& (2147483647 : Int32)), .unset, .unset, .unset, .unset] [(.int (p2 &&& (2147483647 : Int32))), (.int 2048)]))
        refine Goes.on (fun t k => X0.ldcInt hx hown (mvT hZ (hw _ (List.mem_of_getElem? (i := 6) rfl))) (g := (mkF m 64 #[iv p1, iv p2, iv p3, .val (.long p4), .second, iv (p1 &&& (3 : Int32)), iv (p2 &&& (2147483647 : Int32)), .unset, .unset, .unset, .unset] [(.int (p2 &&& (2147483647 : Int32))), (.int 2048)])) rfl (hb hby at_64) t k) ?_
        show Goes p e below QQ (s₁.setTop (mkF m 66 #[iv p1, iv p2, iv p3, .val (.long p4), .second, iv (p1 &&& (3 : Int32)), iv (p2 &&& (2147483647 : Int32)), .unset, .unset, .unset, .unset] [(.int 61440), (.int (p2 &&& (2147483647 : Int32))), (.int 2048)]))
        refine Goes.on (fun t k => iremM X0 hx rfl (hb hby at_66) rfl (by decide) k) ?_
        show Goes p e below QQ (s₁.setTop (mkF m 67 #[iv p1, iv p2, iv p3, .val (.long p4), .second, iv (p1 &&& (3 : Int32)), iv (p2 &&& (2147483647 : Int32)), .unset, .unset, .unset, .unset] [(.int ((p2 &&& (2147483647 : Int32)) % (61440 : Int32))), (.int 2048)]))
        refine Goes.on (fun t k => XS.iadd X0.here hx rfl (hb hby at_67) rfl k) ?_
        show Goes p e below QQ (s₁.setTop (mkF m 68 #[iv p1, iv p2, iv p3, .val (.long p4), .second, iv (p1 &&& (3 : Int32)), iv (p2 &&& (2147483647 : Int32)), .unset, .unset, .unset, .unset] [(.int ((2048 : Int32) + ((p2 &&& (2147483647 : Int32)) % (61440 : Int32))))]))
        refine Goes.on (fun t k => XS.istore X0.here hx rfl (hb hby at_68) rfl (l' := #[iv p1, iv p2, iv p3, .val (.long p4), .second, iv (p1 &&& (3 : Int32)), iv (p2 &&& (2147483647 : Int32)), iv ((2048 : Int32) + ((p2 &&& (2147483647 : Int32)) % (61440 : Int32))), .unset, .unset, .unset]) rfl k) ?_
        show Goes p e below QQ (s₁.setTop (mkF m 70 #[iv p1, iv p2, iv p3, .val (.long p4), .second, iv (p1 &&& (3 : Int32)), iv (p2 &&& (2147483647 : Int32)), iv ((2048 : Int32) + ((p2 &&& (2147483647 : Int32)) % (61440 : Int32))), .unset, .unset, .unset] []))
        refine Goes.on (fun t k => XS.iload X0.here hx rfl (hb hby at_70) rfl k) ?_
        show Goes p e below QQ (s₁.setTop (mkF m 72 #[iv p1, iv p2, iv p3, .val (.long p4), .second, iv (p1 &&& (3 : Int32)), iv (p2 &&& (2147483647 : Int32)), iv ((2048 : Int32) + ((p2 &&& (2147483647 : Int32)) % (61440 : Int32))), .unset, .unset, .unset] [(.int ((2048 : Int32) + ((p2 &&& (2147483647 : Int32)) % (61440 : Int32))))]))
        refine Goes.on (fun t k => X0.ldcInt hx hown (mvT hZ (hw _ (List.mem_of_getElem? (i := 7) rfl))) (g := (mkF m 72 #[iv p1, iv p2, iv p3, .val (.long p4), .second, iv (p1 &&& (3 : Int32)), iv (p2 &&& (2147483647 : Int32)), iv ((2048 : Int32) + ((p2 &&& (2147483647 : Int32)) % (61440 : Int32))), .unset, .unset, .unset] [(.int ((2048 : Int32) + ((p2 &&& (2147483647 : Int32)) % (61440 : Int32))))])) rfl (hb hby at_72) t k) ?_
        show Goes p e below QQ (s₁.setTop (mkF m 74 #[iv p1, iv p2, iv p3, .val (.long p4), .second, iv (p1 &&& (3 : Int32)), iv (p2 &&& (2147483647 : Int32)), iv ((2048 : Int32) + ((p2 &&& (2147483647 : Int32)) % (61440 : Int32))), .unset, .unset, .unset] [(.int 55296), (.int ((2048 : Int32) + ((p2 &&& (2147483647 : Int32)) % (61440 : Int32))))]))
        by_cases hD : ((2048 : Int32) + ((p2 &&& (2147483647 : Int32)) % (61440 : Int32))) < (55296 : Int32)
        · refine Goes.on (fun t k => XS.icmpYes X0.here hx rfl (pc0 := 74) (pc' := 85) rfl (hb hby at_74) rfl (tlt hD).1 (by decide) (by decide) k) ?_
          show Goes p e below QQ (s₁.setTop (mkF m 85 #[iv p1, iv p2, iv p3, .val (.long p4), .second, iv (p1 &&& (3 : Int32)), iv (p2 &&& (2147483647 : Int32)), iv ((2048 : Int32) + ((p2 &&& (2147483647 : Int32)) % (61440 : Int32))), .unset, .unset, .unset] []))
          refine Goes.on (fun t k => XS.iconst X0.here hx rfl (hb hby at_85) k) ?_
          show Goes p e below QQ (s₁.setTop (mkF m 86 #[iv p1, iv p2, iv p3, .val (.long p4), .second, iv (p1 &&& (3 : Int32)), iv (p2 &&& (2147483647 : Int32)), iv ((2048 : Int32) + ((p2 &&& (2147483647 : Int32)) % (61440 : Int32))), .unset, .unset, .unset] [(.int 3)]))
          refine Goes.on (fun t k => XS.istore X0.here hx rfl (hb hby at_86) rfl (l' := #[iv p1, iv p2, iv p3, .val (.long p4), .second, iv (p1 &&& (3 : Int32)), iv (p2 &&& (2147483647 : Int32)), iv ((2048 : Int32) + ((p2 &&& (2147483647 : Int32)) % (61440 : Int32))), iv 3, .unset, .unset]) rfl k) ?_
          show Goes p e below QQ (s₁.setTop (mkF m 88 #[iv p1, iv p2, iv p3, .val (.long p4), .second, iv (p1 &&& (3 : Int32)), iv (p2 &&& (2147483647 : Int32)), iv ((2048 : Int32) + ((p2 &&& (2147483647 : Int32)) % (61440 : Int32))), iv 3, .unset, .unset] []))
          refine Goes.on (fun t k => XS.goto X0.here hx rfl (pc0 := 88) (pc' := 104) rfl (hb hby at_88) (by decide) (by decide) k) ?_
          show Goes p e below QQ (s₁.setTop (mkF m 104 #[iv p1, iv p2, iv p3, .val (.long p4), .second, iv (p1 &&& (3 : Int32)), iv (p2 &&& (2147483647 : Int32)), iv ((2048 : Int32) + ((p2 &&& (2147483647 : Int32)) % (61440 : Int32))), iv 3, .unset, .unset] []))
          exact J3 _ (own_rng3a _ hD)
        · refine Goes.on (fun t k => XS.icmpNo X0.here hx rfl (hb hby at_74) rfl (flt hD).1 k) ?_
          show Goes p e below QQ (s₁.setTop (mkF m 77 #[iv p1, iv p2, iv p3, .val (.long p4), .second, iv (p1 &&& (3 : Int32)), iv (p2 &&& (2147483647 : Int32)), iv ((2048 : Int32) + ((p2 &&& (2147483647 : Int32)) % (61440 : Int32))), .unset, .unset, .unset] []))
          refine Goes.on (fun t k => XS.iload X0.here hx rfl (hb hby at_77) rfl k) ?_
          show Goes p e below QQ (s₁.setTop (mkF m 79 #[iv p1, iv p2, iv p3, .val (.long p4), .second, iv (p1 &&& (3 : Int32)), iv (p2 &&& (2147483647 : Int32)), iv ((2048 : Int32) + ((p2 &&& (2147483647 : Int32)) % (61440 : Int32))), .unset, .unset, .unset] [(.int ((2048 : Int32) + ((p2 &&& (2147483647 : Int32)) % (61440 : Int32))))]))
          refine Goes.on (fun t k => XS.sipush X0.here hx rfl (hb hby at_79) k) ?_
          show Goes p e below QQ (s₁.setTop (mkF m 82 #[iv p1, iv p2, iv p3, .val (.long p4), .second, iv (p1 &&& (3 : Int32)), iv (p2 &&& (2147483647 : Int32)), iv ((2048 : Int32) + ((p2 &&& (2147483647 : Int32)) % (61440 : Int32))), .unset, .unset, .unset] [(.int 2048), (.int ((2048 : Int32) + ((p2 &&& (2147483647 : Int32)) % (61440 : Int32))))]))
          refine Goes.on (fun t k => XS.iadd X0.here hx rfl (hb hby at_82) rfl k) ?_
          show Goes p e below QQ (s₁.setTop (mkF m 83 #[iv p1, iv p2, iv p3, .val (.long p4), .second, iv (p1 &&& (3 : Int32)), iv (p2 &&& (2147483647 : Int32)), iv ((2048 : Int32) + ((p2 &&& (2147483647 : Int32)) % (61440 : Int32))), .unset, .unset, .unset] [(.int (((2048 : Int32) + ((p2 &&& (2147483647 : Int32)) % (61440 : Int32))) + (2048 : Int32)))]))
          refine Goes.on (fun t k => XS.istore X0.here hx rfl (hb hby at_83) rfl (l' := #[iv p1, iv p2, iv p3, .val (.long p4), .second, iv (p1 &&& (3 : Int32)), iv (p2 &&& (2147483647 : Int32)), iv (((2048 : Int32) + ((p2 &&& (2147483647 : Int32)) % (61440 : Int32))) + (2048 : Int32)), .unset, .unset, .unset]) rfl k) ?_
          show Goes p e below QQ (s₁.setTop (mkF m 85 #[iv p1, iv p2, iv p3, .val (.long p4), .second, iv (p1 &&& (3 : Int32)), iv (p2 &&& (2147483647 : Int32)), iv (((2048 : Int32) + ((p2 &&& (2147483647 : Int32)) % (61440 : Int32))) + (2048 : Int32)), .unset, .unset, .unset] []))
          refine Goes.on (fun t k => XS.iconst X0.here hx rfl (hb hby at_85) k) ?_
          show Goes p e below QQ (s₁.setTop (mkF m 86 #[iv p1, iv p2, iv p3, .val (.long p4), .second, iv (p1 &&& (3 : Int32)), iv (p2 &&& (2147483647 : Int32)), iv (((2048 : Int32) + ((p2 &&& (2147483647 : Int32)) % (61440 : Int32))) + (2048 : Int32)), .unset, .unset, .unset] [(.int 3)]))
          refine Goes.on (fun t k => XS.istore X0.here hx rfl (hb hby at_86) rfl (l' := #[iv p1, iv p2, iv p3, .val (.long p4), .second, iv (p1 &&& (3 : Int32)), iv (p2 &&& (2147483647 : Int32)), iv (((2048 : Int32) + ((p2 &&& (2147483647 : Int32)) % (61440 : Int32))) + (2048 : Int32)), iv 3, .unset, .unset]) rfl k) ?_
          show Goes p e below QQ (s₁.setTop (mkF m 88 #[iv p1, iv p2, iv p3, .val (.long p4), .second, iv (p1 &&& (3 : Int32)), iv (p2 &&& (2147483647 : Int32)), iv (((2048 : Int32) + ((p2 &&& (2147483647 : Int32)) % (61440 : Int32))) + (2048 : Int32)), iv 3, .unset, .unset] []))
          refine Goes.on (fun t k => XS.goto X0.here hx rfl (pc0 := 88) (pc' := 104) rfl (hb hby at_88) (by decide) (by decide) k) ?_
          show Goes p e below QQ (s₁.setTop (mkF m 104 #[iv p1, iv p2, iv p3, .val (.long p4), .second, iv (p1 &&& (3 : Int32)), iv (p2 &&& (2147483647 : Int32)), iv (((2048 : Int32) + ((p2 &&& (2147483647 : Int32)) % (61440 : Int32))) + (2048 : Int32)), iv 3, .unset, .unset] []))
          exact J3 _ (own_rng3b _ hD)
      · refine Goes.on (fun t k => XS.icmpYes X0.here hx rfl (pc0 := 56) (pc' := 91) rfl (hb hby at_56) rfl (feq hb145).2 (by decide) (by decide) k) ?_
        show Goes p e below QQ (s₁.setTop (mkF m 91 #[iv p1, iv p2, iv p3, .val (.long p4), .second, iv (p1 &&& (3 : Int32)), iv (p2 &&& (2147483647 : Int32)), .unset, .unset, .unset, .unset] []))
        refine Goes.on (fun t k => X0.ldcInt hx hown (mvT hZ (hw _ (List.mem_of_getElem? (i := 8) rfl))) (g := (mkF m 91 #[iv p1, iv p2, iv p3, .val (.long p4), .second, iv (p1 &&& (3 : Int32)), iv (p2 &&& (2147483647 : Int32)), .unset, .unset, .unset, .unset] [])) rfl (hb hby at_91) t k) ?_
        show Goes p e below QQ (s₁.setTop (mkF m 93 #[iv p1, iv p2, iv p3, .val (.long p4), .second, iv (p1 &&& (3 : Int32)), iv (p2 &&& (2147483647 : Int32)), .unset, .unset, .unset, .unset] [(.int 65536)]))
        refine Goes.on (fun t k => XS.iload X0.here hx rfl (hb hby at_93) rfl k) ?_
        show Goes p e below QQ (s₁.setTop (mkF m 95 #[iv p1, iv p2, iv p3, .val (.long p4), .second, iv (p1 &&& (3 : Int32)), iv (p2 &&& (2147483647 : Int32)), .unset, .unset, .unset, .unset] [(.int (p2 &&& (2147483647 : Int32))), (.int 65536)]))
        refine Goes.on (fun t k => X0.ldcInt hx hown (mvT hZ (hw _ (List.mem_of_getElem? (i := 9) rfl))) (g := (mkF m 95 #[iv p1, iv p2, iv p3, .val (.long p4), .second, iv (p1 &&& (3 : Int32)), iv (p2 &&& (2147483647 : Int32)), .unset, .unset, .unset, .unset] [(.int (p2 &&& (2147483647 : Int32))), (.int 65536)])) rfl (hb hby at_95) t k) ?_
        show Goes p e below QQ (s₁.setTop (mkF m 97 #[iv p1, iv p2, iv p3, .val (.long p4), .second, iv (p1 &&& (3 : Int32)), iv (p2 &&& (2147483647 : Int32)), .unset, .unset, .unset, .unset] [(.int 1048576), (.int (p2 &&& (2147483647 : Int32))), (.int 65536)]))
        refine Goes.on (fun t k => iremM X0 hx rfl (hb hby at_97) rfl (by decide) k) ?_
        show Goes p e below QQ (s₁.setTop (mkF m 98 #[iv p1, iv p2, iv p3, .val (.long p4), .second, iv (p1 &&& (3 : Int32)), iv (p2 &&& (2147483647 : Int32)), .unset, .unset, .unset, .unset] [(.int ((p2 &&& (2147483647 : Int32)) % (1048576 : Int32))), (.int 65536)]))
        refine Goes.on (fun t k => XS.iadd X0.here hx rfl (hb hby at_98) rfl k) ?_
        show Goes p e below QQ (s₁.setTop (mkF m 99 #[iv p1, iv p2, iv p3, .val (.long p4), .second, iv (p1 &&& (3 : Int32)), iv (p2 &&& (2147483647 : Int32)), .unset, .unset, .unset, .unset] [(.int ((65536 : Int32) + ((p2 &&& (2147483647 : Int32)) % (1048576 : Int32))))]))
        refine Goes.on (fun t k => XS.istore X0.here hx rfl (hb hby at_99) rfl (l' := #[iv p1, iv p2, iv p3, .val (.long p4), .second, iv (p1 &&& (3 : Int32)), iv (p2 &&& (2147483647 : Int32)), iv ((65536 : Int32) + ((p2 &&& (2147483647 : Int32)) % (1048576 : Int32))), .unset, .unset, .unset]) rfl k) ?_
        show Goes p e below QQ (s₁.setTop (mkF m 101 #[iv p1, iv p2, iv p3, .val (.long p4), .second, iv (p1 &&& (3 : Int32)), iv (p2 &&& (2147483647 : Int32)), iv ((65536 : Int32) + ((p2 &&& (2147483647 : Int32)) % (1048576 : Int32))), .unset, .unset, .unset] []))
        refine Goes.on (fun t k => XS.iconst X0.here hx rfl (hb hby at_101) k) ?_
        show Goes p e below QQ (s₁.setTop (mkF m 102 #[iv p1, iv p2, iv p3, .val (.long p4), .second, iv (p1 &&& (3 : Int32)), iv (p2 &&& (2147483647 : Int32)), iv ((65536 : Int32) + ((p2 &&& (2147483647 : Int32)) % (1048576 : Int32))), .unset, .unset, .unset] [(.int 4)]))
        refine Goes.on (fun t k => XS.istore X0.here hx rfl (hb hby at_102) rfl (l' := #[iv p1, iv p2, iv p3, .val (.long p4), .second, iv (p1 &&& (3 : Int32)), iv (p2 &&& (2147483647 : Int32)), iv ((65536 : Int32) + ((p2 &&& (2147483647 : Int32)) % (1048576 : Int32))), iv 4, .unset, .unset]) rfl k) ?_
        show Goes p e below QQ (s₁.setTop (mkF m 104 #[iv p1, iv p2, iv p3, .val (.long p4), .second, iv (p1 &&& (3 : Int32)), iv (p2 &&& (2147483647 : Int32)), iv ((65536 : Int32) + ((p2 &&& (2147483647 : Int32)) % (1048576 : Int32))), iv 4, .unset, .unset] []))
        exact J4 _ (own_rng4 _ )
set_option maxRecDepth 65536 in
set_option maxHeartbeats 40000000 in
theorem comes_1 {Post : Tables → Env → Array Value → State → Outcome → State → Prop} (hpost : ∀ tb e args s v u, (limb_1_1.after args s (.returned v) u = true ∧ limb_1_2.after args s (.returned v) u = true ∧ True) → FrameEnd s (.returned v) u (Jvm.fieldLocs frame_1_writes args s ++ Jvm.arrayLocs frame_1_arrays args s ++ Jvm.staticLocs frame_1_statics s) 16 128 → Post tb e args s (.returned v) u) :
    ArmFor flags0 classFile x code maxLocals ret World_1 tables_1 room_1 Calls_1 rest_1 Pre_1 Post := by
  intro l hfl _ _ p e ha hc hk s m args below hf hA hF happ hP
  obtain ⟨hcalls, hrest, hpre⟩ := hP
  obtain ⟨-, -, -, hnamed, -, -, -, hat⟩ := (Spec.applies_iff hf).mp happ
  obtain ⟨hg, hn⟩ := and_e (Cond.before_iff.mp (show (Jvm.Cond.and given_1 narrow_1).before args s = true from hpre))
  obtain ⟨hg0, hg1⟩ := and_e hg
  obtain ⟨ga1, hg2⟩ := and_e hg1
  obtain ⟨ga2, hg3⟩ := and_e hg2
  obtain ⟨ga3, hg4⟩ := and_e hg3
  obtain ⟨w0, w1, w2, w3, rfl⟩ : ∃ w0 w1 w2 w3 : Value, args = #[w0, w1, w2, w3] := by
    have hs : args.size = 4 := by simpa [Cond.value, given_1] using hg0
    obtain ⟨L⟩ := args
    match L, hs with
    | [w0, w1, w2, w3], _ => exact ⟨w0, w1, w2, w3, rfl⟩
  have hw := fun d (hd : d ∈ tables_1) => atoms_spec (ws := Jvm.Cond.code x code maxLocals ret :: tables_1) hat d (List.mem_cons_of_mem _ hd)
  have hfit : Fit s := fun {y c} hc i hi => by
    obtain ⟨ha, rfl⟩ := Array.getElem?_eq_some_iff.mp hc
    have q := List.all_eq_true.mp ((Array.all_eq_true_iff_forall_mem.mp hF) _ (Array.getElem_mem ha)) i (List.mem_range.mpr hi)
    simpa [Array.getElem?_eq_getElem hi] using q
  obtain ⟨i0, ei0⟩ := is_v ga1
  obtain rfl : w0 = (.int i0) := Option.some.inj ei0
  obtain ⟨i1, ei1⟩ := is_v ga2
  obtain rfl : w1 = (.int i1) := Option.some.inj ei1
  obtain ⟨i2, ei2⟩ := is_v ga3
  obtain rfl : w2 = (.int i2) := Option.some.inj ei2
  obtain ⟨i3, ei3⟩ := isL_v hg4
  obtain rfl : w3 = (.long i3) := Option.some.inj ei3
  obtain ⟨n, o, h1, h2, h3, _, L, rfl, ⟨rfl, N⟩, hq⟩ := rm0 l s _ hw tables_1 i0 i1 i2 i3 s.heap s.heap.size (Nat.le_refl _)  p e ha hc hk s m _ below hf ((Spec.applies_iff_loose hf).mp happ).1 ⟨rfl, State.Warmed39.refl s, rfl⟩ trivial
  refine ⟨n, _, h1, h2, h3, hpost _ _ _ _ _ _ ⟨Cond.after_iff.mpr rfl, Cond.after_iff.mpr (eq_i res_at (Term.int_eval (1)) rfl), trivial⟩ ⟨hq.1, hq.2.1, (hq.2.2.sift fun y hy => Or.inr (N y hy)).mono (by decide) (by decide)⟩⟩
theorem main_1_1 : Claimed_1_1 := comes_1 fun _ _ _ _ _ _ h hF => ⟨h.1, hF⟩
theorem main_1_2 : Claimed_1_2 := comes_1 fun _ _ _ _ _ _ h hF => ⟨h.2.1, hF⟩
end Jvm.Pilot.@@N@@
namespace Jvm.Pilot.@@N@@
open Jvm Jvm.ClassFile Sem Op Lib Jvm.Free Jvm.Stand Jvm.Pilot.@@N@@.Jvm.D
/-! MADE BY PROGRAM (witnessworld.py) out of the Statement's table words and the real class files: 9 classes; the members and pool entries that the words name. The judged class is class 1, her method 1. -/
namespace start1
open Jvm.ClassFile
def u (s : String) : CpInfo := .utf8 (stringToUtf16 s)
/-- a pool by its gaps: so many unusable entries, then the entry; so many at the end -/
def gap : Nat → List CpInfo → List CpInfo
  | 0, r => r
  | n + 1, r => .unusable :: gap n r
def poolList (es : List (Nat × CpInfo)) (last : Nat) : List CpInfo := es.foldr (fun e r => gap e.1 (e.2 :: r)) (gap last [])
def pool (es : List (Nat × CpInfo)) (last : Nat) : Array CpInfo := ⟨poolList es last⟩
def fileOf (pool : Array CpInfo) (this : Nat) (attrs : Array Attribute := #[]) (ms : Array MethodInfo := #[]) (fl : Nat := 33) (sup : Nat := 0) (ifs : Array Nat := #[]) (fds : Array FieldInfo := #[]) : ClassFile where
  minorVersion := 0
  majorVersion := 65
  constantPool := pool
  accessFlags := fl
  thisClass := this
  superClass := sup
  interfaces := ifs
  fields := fds
  methods := ms
  attributes := attrs
def plain (name : String) (sup : Option ClassId) : Class where
  name := name
  kind := .ordinary
  loader := none
  accessFlags := 33
  super := sup
  interfaces := #[]
  cf := none
  fields := #[]
  methods := #[]
  instanceTypes := #[]
  staticTypes := #[]
  resolved := #[]
  callSites := []
  init := .initialized
  statics := none
  mirror := none

def pool0 : Array CpInfo := pool [(5, u "<init>"), (0, u "()V"), (1, .class_ 10), (1, u "java/lang/Object")] 113

def k0m0 : Method := { name := "<init>", desc := "()V", sig := { parameters := [], returnType := none }, accessFlags := 1, code := none }
/-- java/lang/Object -/
def k0 : Class := { plain "java/lang/Object" none with
  accessFlags := 33
  interfaces := #[]
  cf := some (fileOf pool0 8 #[] #[{ accessFlags := 1, nameIndex := 5, descriptorIndex := 6, attributes := #[] }] 33 0 #[] #[])
  fields := #[]
  methods := #[k0m0]
  instanceTypes := #[]
  staticTypes := #[]
  resolved := Array.replicate 124 none
  statics := none }

def pool1 : Array CpInfo := pool [(2, .class_ 4), (1, u "java/lang/Object"), (0, u "<init>"), (0, u "()V"), (0, .integer 2147483647), (0, .integer 61440), (0, .integer 55296), (0, .integer 65536), (0, .integer 1048576), (0, .methodref 13 14), (0, .class_ 15), (0, .nameAndType 16 17), (0, u "com/example/sober_links/soberlinks/io/Utf8"), (0, u "codePointAt"), (0, u "([BI)I"), (0, .class_ 19), (0, u "com/example/sober_links/soberlinks/io/Utf8CodePointAtPinLaw"), (2, u "law"), (0, u "(IIIJ)Z")] 5

def k1m0 : Method := { name := "<init>", desc := "()V", sig := { parameters := [], returnType := none }, accessFlags := 1, code := none }
def k1c1 : Code := { maxStack := 5, maxLocals := 11, code := code, exceptionTable := #[], attributes := #[] }
def k1m1 : Method := { name := "law", desc := "(IIIJ)Z", sig := { parameters := [.int, .int, .int, .long], returnType := some .boolean }, accessFlags := 9, code := some k1c1 }
/-- com/example/sober_links/soberlinks/io/Utf8CodePointAtPinLaw -/
def k1 : Class := { plain "com/example/sober_links/soberlinks/io/Utf8CodePointAtPinLaw" (some 0) with
  accessFlags := 49
  interfaces := #[]
  cf := some (fileOf pool1 18 #[] #[{ accessFlags := 1, nameIndex := 5, descriptorIndex := 6, attributes := #[] }, { accessFlags := 9, nameIndex := 22, descriptorIndex := 23, attributes := #[] }] 49 2 #[] #[])
  fields := #[]
  methods := #[k1m0, k1m1]
  instanceTypes := #[]
  staticTypes := #[]
  resolved := Array.replicate 29 none
  statics := none }

def pool2 : Array CpInfo := pool [(2, .class_ 4), (1, u "java/lang/Object"), (0, u "<init>"), (0, u "()V"), (1, .class_ 10), (1, u "com/example/sober_links/soberlinks/io/Utf8"), (9, u "codePointAt"), (0, u "([BI)I"), (35, u "CONTINUATION_BITS"), (0, u "I"), (2, u "LOWEST_CONTINUATION"), (1, u "HIGHEST_CONTINUATION")] 17

def k2m0 : Method := { name := "<init>", desc := "()V", sig := { parameters := [], returnType := none }, accessFlags := 2, code := none }
def k2c1 : Code := { maxStack := 4, maxLocals := 6, code := prog_93_method_4_code, exceptionTable := #[], attributes := #[] }
def k2m1 : Method := { name := "codePointAt", desc := "([BI)I", sig := { parameters := [(.array .byte), .int], returnType := some .int }, accessFlags := 8, code := some k2c1 }
/-- com/example/sober_links/soberlinks/io/Utf8 -/
def k2 : Class := { plain "com/example/sober_links/soberlinks/io/Utf8" (some 0) with
  accessFlags := 48
  interfaces := #[]
  cf := some (fileOf pool2 8 #[] #[{ accessFlags := 2, nameIndex := 5, descriptorIndex := 6, attributes := #[] }, { accessFlags := 8, nameIndex := 20, descriptorIndex := 21, attributes := #[] }] 48 2 #[] #[{ accessFlags := 26, nameIndex := 57, descriptorIndex := 58, attributes := #[] }, { accessFlags := 26, nameIndex := 61, descriptorIndex := 58, attributes := #[] }, { accessFlags := 26, nameIndex := 63, descriptorIndex := 58, attributes := #[] }])
  fields := #[{ name := "CONTINUATION_BITS", type := .int, accessFlags := 26, slot := 0, constantValue := 0 }, { name := "LOWEST_CONTINUATION", type := .int, accessFlags := 26, slot := 1, constantValue := 0 }, { name := "HIGHEST_CONTINUATION", type := .int, accessFlags := 26, slot := 2, constantValue := 0 }]
  methods := #[k2m0, k2m1]
  instanceTypes := #[]
  staticTypes := #[.int, .int, .int]
  resolved := Array.replicate 81 none
  statics := none }

def pool3 : Array CpInfo := pool [(1, u "java/lang/Cloneable"), (0, .class_ 1), (0, u "java/lang/Object"), (0, .class_ 3)] 3

/-- java/lang/Cloneable -/
def k3 : Class := { plain "java/lang/Cloneable" (some 0) with
  accessFlags := 1537
  interfaces := #[]
  cf := some (fileOf pool3 2 #[] #[] 1537 4 #[] #[])
  fields := #[]
  methods := #[]
  instanceTypes := #[]
  staticTypes := #[]
  resolved := Array.replicate 8 none
  statics := none }

def pool4 : Array CpInfo := pool [(1, u "java/io/Serializable"), (0, .class_ 1), (0, u "java/lang/Object"), (0, .class_ 3)] 3

/-- java/io/Serializable -/
def k4 : Class := { plain "java/io/Serializable" (some 0) with
  accessFlags := 1537
  interfaces := #[]
  cf := some (fileOf pool4 2 #[] #[] 1537 4 #[] #[])
  fields := #[]
  methods := #[]
  instanceTypes := #[]
  staticTypes := #[]
  resolved := Array.replicate 8 none
  statics := none }

/-- the primitive byte -/
def k5 : Class := { plain "byte" none with kind := .primitive 'B', accessFlags := 0x411 }
/-- [B -/
def k6 : Class := { plain "[B" (some 0) with kind := .array 5 .byte, interfaces := #[3, 4], accessFlags := 1041 }

/-- the primitive int -/
def k7 : Class := { plain "int" none with kind := .primitive 'I', accessFlags := 0x411 }
/-- [I -/
def k8 : Class := { plain "[I" (some 0) with kind := .array 7 .int, interfaces := #[3, 4], accessFlags := 1041 }

def heap : Heap := #[]
def classes : Array Class := #[k0, k1, k2, k3, k4, k5, k6, k7, k8]
def interned : List (Array UInt16 × Addr) := []
def slotsUsed : Nat := 0
def theMethod : MethodId := ⟨1, 1⟩
def args0 : Array Value := #[.int 5, .int 6, .int 7, .long 8]
def aboutOver (below : List Frame) : State where
  vm := { classes := classes, interned := interned.toArray }
  heap := heap
  slotsUsed := slotsUsed
  threads := #[{ frames := .invoking theMethod args0 :: below }]
def below0 : List Frame := [.native { method := ⟨0, 0⟩, args := #[] }]
def about1 : State := aboutOver below0
def p0 : Program := .bare "" "" ""
def e0 : Env := launch0.env 0 0 0
theorem w_frames : about1.frames = Frame.invoking theMethod args0 :: below0 := rfl
set_option maxRecDepth 65536 in
theorem w_args : argsFit about1.vm theMethod args0 = true := by decide +kernel
set_option maxRecDepth 65536 in
theorem w_heap : heapFits about1 = true := by decide +kernel
set_option maxRecDepth 65536 in
theorem w_runnable : about1.curStatus? = some .runnable := by decide +kernel
set_option maxRecDepth 65536 in
theorem w_alone : about1.alone = true := by decide +kernel
set_option maxRecDepth 65536 in
theorem w_named : about1.methodNamed? x = some theMethod := by decide +kernel
set_option maxRecDepth 65536 in
theorem w_hears : about1.hears theMethod below0 = true := by decide +kernel
set_option maxRecDepth 65536 in
theorem w_ripe : about1.ripe theMethod args0 below0 = true := by decide +kernel
theorem w_running : about1.status = .running := rfl
set_option maxRecDepth 65536 in
theorem w_room : about1.hasRoom e0.platform room_1 = true :=
  launch0.hasRoom_least _ room_1 (by decide +kernel) (by decide +kernel) (by decide +kernel) (by decide +kernel) (by decide +kernel) (by decide +kernel)
theorem allAtoms_all (ts : List Jvm.Cond) (a : Array Jvm.Value) (st : Jvm.State) : (allAtoms ts).before a st = ts.all (fun c => c.before a st) := by
  induction ts with
  | nil => rfl
  | cons c t ih =>
    show (Jvm.Cond.and c (allAtoms t)).before a st = _
    rw [Jvm.Cond.before_and, ih, List.all_cons]
def words1 : List Jvm.Cond := Jvm.Cond.code x code maxLocals ret :: tables_1
/-- a 'code' word, met by the world's own term for the bytes: nothing is compared byte by byte -/
theorem code_word {y : MethodName} {bytes : ByteArray} {mx : Nat} {rt : Option FieldType} {a : Array Value} {s : State} {m : MethodId} {meth : Method} {c : Code} (h1 : s.methodNamed? y = some m) (h2 : s.vm.method? m = some meth) (h3 : meth.code = some c) (h4 : c.code = bytes)
    (h5 : (c.maxLocals == mx && c.exceptionTable.isEmpty && decide (c.maxStack ≤ mostOperands) && decide (meth.sig.returnType = rt) && !meth.locks && decide (parseMethodDescriptor y.desc = some meth.sig)) = true) : (Jvm.Cond.code y bytes mx rt).before a s = true := by
  simp only [Bool.and_eq_true, beq_iff_eq, Bool.not_eq_true', decide_eq_true_eq] at h5
  obtain ⟨⟨⟨⟨⟨g1, g2⟩, g3⟩, g4⟩, g5⟩, g6⟩ := h5
  simp [Cond.before, Cond.holds, Cond.value, h1, h2, h3, h4, g1, g2, g3, g4, g5, g6]
def isCode : Jvm.Cond → Bool
  | .code _ _ _ _ => true
  | _ => false
theorem all_split {L : List Jvm.Cond} {P : Jvm.Cond → Bool} (h1 : L.all (fun c => isCode c || P c) = true) (h2 : ∀ c ∈ L.filter isCode, P c = true) : L.all P = true := by
  refine List.all_eq_true.mpr fun c hc => ?_
  have h := List.all_eq_true.mp h1 c hc
  rcases Bool.eq_false_or_eq_true (isCode c) with hi | hi
  · exact h2 c (List.mem_filter.mpr ⟨hc, hi⟩)
  · simpa [hi] using h
set_option maxRecDepth 65536 in
theorem w_c0 : (Jvm.Cond.code x code maxLocals ret).before args0 about1 = true := code_word (m := ⟨1, 1⟩) (meth := k1m1) (c := k1c1) (by decide +kernel) rfl rfl rfl (by decide +kernel)
set_option maxRecDepth 65536 in
theorem w_c1 : (Jvm.Cond.code ({ cls := "com/example/sober_links/soberlinks/io/Utf8", name := "codePointAt", desc := "([BI)I" } : Jvm.MethodName) prog_93_method_4_code (6 : Nat) (Option.some Jvm.ClassFile.FieldType.int)).before args0 about1 = true := code_word (m := ⟨2, 1⟩) (meth := k2m1) (c := k2c1) (by decide +kernel) rfl rfl rfl (by decide +kernel)
def codes1 : List Jvm.Cond := [Jvm.Cond.code x code maxLocals ret, Jvm.Cond.code ({ cls := "com/example/sober_links/soberlinks/io/Utf8", name := "codePointAt", desc := "([BI)I" } : Jvm.MethodName) prog_93_method_4_code (6 : Nat) (Option.some Jvm.ClassFile.FieldType.int)]
set_option maxRecDepth 65536 in
theorem codes_eq : words1.filter isCode = codes1 := rfl
theorem w_codes : ∀ c ∈ words1.filter isCode, c.before args0 about1 = true := by
  rw [codes_eq]
  intro c hc
  simp only [codes1, List.mem_cons, List.not_mem_nil, or_false] at hc
  rcases hc with rfl | rfl
  · exact w_c0
  · exact w_c1
set_option maxRecDepth 65536 in
theorem w_t1 : words1.all (fun c => isCode c || c.before args0 about1) = true := by decide +kernel
theorem w_tables : (allAtoms (Jvm.Cond.code x code maxLocals ret :: tables_1)).before args0 about1 = true := by
  rw [allAtoms_all]
  show words1.all (fun c => c.before args0 about1) = true
  refine all_split ?_ w_codes
  rw [w_t1]
set_option maxRecDepth 65536 in
theorem w_case : (Jvm.Cond.and given_1 narrow_1).before args0 about1 = true := by decide +kernel
theorem w_applies : (headSpec (Jvm.Cond.code x code maxLocals ret :: tables_1) room_1).applies x e0.platform about1 = true :=
  (Spec.applies_iff w_frames).mpr ⟨w_running, w_runnable, w_alone, w_named, w_hears, w_ripe, w_room, w_tables⟩
theorem atStart : AtStart classFile x code maxLocals ret World_1 tables_1 room_1 Calls_1 rest_1 Pre_1 launch0 p0 e0 about1 theMethod args0 below0 :=
  ⟨lists_1, trivial, launch0.admits_env _ _ _, launch0.least_env, fairChoices_fair.cas, fairChoices_fair.clock, w_frames, w_args, w_heap, w_applies, trivial, trivial, w_case⟩
end start1
theorem witness_1 : WitnessClaimed_1 := ⟨start1.p0, start1.e0, start1.about1, start1.theMethod, start1.args0, start1.below0, start1.atStart⟩
end Jvm.Pilot.@@N@@
