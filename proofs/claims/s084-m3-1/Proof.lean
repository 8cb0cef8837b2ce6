import JvmDerived
import JvmDerived.Pilot.@@N@@Statement
import JvmDerived.Pilot.@@N@@Code
set_option linter.unusedVariables false
set_option linter.unusedSimpArgs false
namespace Jvm.Pilot.@@N@@
open Jvm Jvm.ClassFile Sem Op Lib Jvm.Free Jvm.Stand Jvm.LawKit Jvm.RoadKit Bundle Jvm.Pilot.@@N@@.Jvm.D
/-! from the state S the run comes to an end that QQ allows -/
def Goes (p : Program) (e : Env) (below : List Frame) (QQ : Outcome → State → Prop) (S : State) : Prop :=
  ∃ s₂ o, Steps p.tables e below S s₂ ∧ s₂.status = .running ∧ Ended s₂ below o ∧ QQ o s₂
theorem Goes.on {p : Program} {e : Env} {below : List Frame} {QQ : Outcome → State → Prop} {S S' : State} (h : ∀ t, Steps p.tables e below S' t → Steps p.tables e below S t) (g : Goes p e below QQ S') : Goes p e below QQ S := by
  obtain ⟨s₂, o, h1, h2⟩ := g
  exact ⟨s₂, o, h _ h1, h2⟩
theorem Goes.cast {p : Program} {e : Env} {below : List Frame} {QQ : Outcome → State → Prop} {T : State} {g g' : JFrame} (q : g = g') (k : Goes p e below QQ (T.setTop g')) : Goes p e below QQ (T.setTop g) := q ▸ k
def EndsQ (s : State) (Q : Option Value → Heap → List Loc → Prop) (kc ks : Nat) (o : Outcome) (U' : State) : Prop := ∃ v L, o = .returned v ∧ Q v U'.heap L ∧ FrameEnd s o U' L kc ks
/-- a result alone -/
def QP (x : Value) (h0 : Heap) (n0 : Nat) (v : Option Value) (h : Heap) (L : List Loc) : Prop := v = some x ∧ Fr n0 L ∧ h = h0
theorem own_enter {l : Launch} {y : MethodName} {bytes : ByteArray} {maxL : Nat} {rt : Option FieldType} {ws : List Jvm.Cond} {rm : Room} {as' : Array Value} {Q : Option Value → Heap → List Loc → Prop} {Z : State} {h0 : Heap} {kc ks : Nat} (hp : plainFor y = true)
    (body : ∀ (p : Program) (e : Env) (s : State) (m : MethodId) (below : List Frame) (meth : Method) (c : Code) (s₁ : State) (QQ : Outcome → State → Prop), (∀ o U', EndsQ s Q kc ks o U' → QQ o U') → p.tables.exec = Jvm.exec → c.code = bytes → c.maxLocals = maxL → s.vm.findClass y.cls = some m.cls → meth.name = y.name → meth.sig.returnType = rt → meth.locks = false → Z.Warmed39 s.vm → Stand p l e rm s m as' below meth c s₁ [] 0 0 → s₁.heap = h0 →
      Goes p e below QQ (s₁.setTop (entryFrame m as' maxL))) :
    MetFree l y (head1 (Jvm.Cond.code y bytes maxL rt :: ws) rm) (fun a U => a = as' ∧ Z.Warmed39 U.vm ∧ U.heap = h0) (fun _ _ _ _ _ => True) (fun _ U o U' => ∃ v L, o = .returned v ∧ Q v U'.heap L ∧ FrameEnd U o U' L kc ks) := by
  refine MetFree.of_bodySF hp hisR ?_
  intro p e s m args below meth c s₁ Bd hml0 hP hK
  obtain ⟨rfl, hZ, hh⟩ := hP
  exact body p e s m below meth c s₁ _ (fun o U' h => h) Bd.exec Bd.bytes hml0 (findClass_of_methodNamed Bd.named) (name_of_methodNamed Bd.named Bd.method).1 Bd.returns (BodyLoose.notSynchronized Bd) hZ (Stand.of_body Bd) (by rw [← hh, Bd.state]; rfl)
section Ret
variable {p : Program} {l : Launch} {e : Env} {R : Room} {s : State} {m : MethodId} {args : Array Value} {below : List Frame} {meth : Method} {c : Code} {T : State} {locs : List Loc} {cells slots kc ks : Nat} {QQ : Outcome → State → Prop} {Q : Option Value → Heap → List Loc → Prop}
theorem Goes.fin (X : Stand p l e R s m args below meth c T locs cells slots) (hlk : meth.locks = false) {v : Option Value} (hv : meth.sig.returnType = none → v = none) {g : JFrame}
    (step : ∀ fs : List Frame, (∀ (f : JFrame) (acts : List Action), f.method = m → f.locked = none → f.entered = [] → (doReturn e (T.setTop f) acts v).1 = T.setFrames fs) → Steps p.tables e below (T.setTop g) (T.setFrames fs))
    (hQQ : ∀ o U', EndsQ s Q kc ks o U' → QQ o U') (hq : Q v T.heap locs) (hc : cells ≤ kc) (hs : slots ≤ ks) : Goes p e below QQ (T.setTop g) := by
  obtain ⟨fs, hr, hrun, hended, hW, hsame⟩ := X.leave (v := v) hv hlk
  exact ⟨_, _, step fs hr, hrun, hended, hQQ _ _ ⟨v, locs, rfl, hq, ⟨v, rfl⟩, hW, hsame.mono hc hs⟩⟩
theorem Goes.rI (X : Stand p l e R s m args below meth c T locs cells slots) (hx : p.tables.exec = Jvm.exec) (hret : meth.sig.returnType = some .int) (hlk : meth.locks = false) {pc : Nat} {Ls : Array Slot} {z : Int32} {rest : List Value} (hd : decode c.code pc = .ok (.ireturn, 1))
    (hQQ : ∀ o U', EndsQ s Q kc ks o U' → QQ o U') (hq : Q (some (.int z)) T.heap locs) (hc : cells ≤ kc) (hs : slots ≤ ks) : Goes p e below QQ (T.setTop (mkF m pc Ls (.int z :: rest))) :=
  Goes.fin X hlk (v := some (.int z)) (fun h => by rw [hret] at h; cases h) (fun fs hr => retOut X hx hret rfl (Or.inl ⟨rfl, Or.inl rfl, z, rfl⟩) hd hr) hQQ hq hc hs
theorem Goes.rN (X : Stand p l e R s m args below meth c T locs cells slots) (hx : p.tables.exec = Jvm.exec) {t : FieldType} (hret : meth.sig.returnType = some t) (ht : t = .boolean ∨ t = .byte ∨ t = .char ∨ t = .short) (hlk : meth.locks = false) {pc : Nat} {Ls : Array Slot} {z : Int32} {rest : List Value} (hd : decode c.code pc = .ok (.ireturn, 1))
    (hQQ : ∀ o U', EndsQ s Q kc ks o U' → QQ o U') (hq : Q (some (.int (nar t z))) T.heap locs) (hc : cells ≤ kc) (hs : slots ≤ ks) : Goes p e below QQ (T.setTop (mkF m pc Ls (.int z :: rest))) :=
  Goes.fin X hlk (v := some (.int (nar t z))) (fun h => by rw [hret] at h; cases h) (fun fs hr => retN X hx hret ht hd hr) hQQ hq hc hs
theorem Goes.rJ (X : Stand p l e R s m args below meth c T locs cells slots) (hx : p.tables.exec = Jvm.exec) (hret : meth.sig.returnType = some .long) (hlk : meth.locks = false) {pc : Nat} {Ls : Array Slot} {z : Int64} {rest : List Value} (hd : decode c.code pc = .ok (.lreturn, 1))
    (hQQ : ∀ o U', EndsQ s Q kc ks o U' → QQ o U') (hq : Q (some (.long z)) T.heap locs) (hc : cells ≤ kc) (hs : slots ≤ ks) : Goes p e below QQ (T.setTop (mkF m pc Ls (.long z :: rest))) :=
  Goes.fin X hlk (v := some (.long z)) (fun h => by rw [hret] at h; cases h) (fun fs hr => retOut X hx hret rfl (Or.inr (Or.inl ⟨rfl, rfl, z, rfl⟩)) hd hr) hQQ hq hc hs
theorem Goes.rA (X : Stand p l e R s m args below meth c T locs cells slots) (hx : p.tables.exec = Jvm.exec) {t : FieldType} (hret : meth.sig.returnType = some t) (ht : t.isReference = true) {w : Value} (hw : w.isRef = true) (hlk : meth.locks = false) {pc : Nat} {Ls : Array Slot} {rest : List Value} (hd : decode c.code pc = .ok (.areturn, 1))
    (hQQ : ∀ o U', EndsQ s Q kc ks o U' → QQ o U') (hq : Q (some w) T.heap locs) (hc : cells ≤ kc) (hs : slots ≤ ks) : Goes p e below QQ (T.setTop (mkF m pc Ls (w :: rest))) :=
  Goes.fin X hlk (v := some w) (fun h => by rw [hret] at h; cases h) (fun fs hr => retOut X hx hret (by cases w <;> first | (cases hw; done) | (cases t <;> first | (cases ht; done) | rfl)) (Or.inr (Or.inr (Or.inr (Or.inr ⟨rfl, ht, hw⟩)))) hd hr) hQQ hq hc hs
theorem Goes.rV (X : Stand p l e R s m args below meth c T locs cells slots) (hx : p.tables.exec = Jvm.exec) (hret : meth.sig.returnType = none) (hlk : meth.locks = false) {pc : Nat} {Ls : Array Slot} (hd : decode c.code pc = .ok (.return_, 1))
    (hQQ : ∀ o U', EndsQ s Q kc ks o U' → QQ o U') (hq : Q none T.heap locs) (hc : cells ≤ kc) (hs : slots ≤ ks) : Goes p e below QQ (T.setTop (mkF m pc Ls [])) :=
  Goes.fin X hlk (v := none) (fun _ => rfl) (fun fs hr => X.returnOut hx hret hd hr) hQQ hq hc hs
end Ret
/-- what the law leaves: it returned 1, and nothing old was written -/
def QL (n0 : Nat) (v : Option Value) (h : Heap) (L : List Loc) : Prop := v = some (.int 1) ∧ Fr n0 L
theorem own_fldI {args : Array Value} {s : State} {tt : Term} {C n d : String} {a : Addr} {k : Int32} (ht : tt.eval args s none [] s = some (.ref a)) (h : (Jvm.Cond.eq (Term.field tt C n d) (Term.int k)).value args s none s [] = some true) : Fld s s.heap a C n d (.int k) := by
  obtain ⟨x1, y1, e1, e2, k1, k2⟩ := cmp_v (Or.inl h)
  cases (Term.int_eval k).symm.trans e2
  obtain ⟨z1, rfl⟩ := k2
  have q := gotT (Cond.eq_ints e1 (Term.int_eval k)) h
  subst q
  exact Fld.start ((fld_at ht).symm.trans e1)
theorem own_len {args : Array Value} {s : State} {tt : Term} {a : Addr} {cl : Cell} {ty : FieldType} {k : Int32} (kn : Nat) (hk : k.toInt = kn) (ht : tt.eval args s none [] s = some (.ref a)) (A : Arr s s.heap a cl ty) (h : (Jvm.Cond.eq (Term.length tt) (Term.int k)).value args s none s [] = some true) : cl.slots.size = kn := by
  obtain ⟨x1, y1, e1, e2, k1, k2⟩ := cmp_v (Or.inl h)
  cases (Term.int_eval k).symm.trans e2
  obtain ⟨z1, rfl⟩ := k2
  have q := gotT (Cond.eq_ints e1 (Term.int_eval k)) h
  obtain ⟨a', cell, ha, harr, hsm, hv⟩ := Jvm.Lib.length_spec e1
  cases ht.symm.trans ha
  cases (Arr.fin (Vm.Alike.refl _) A).symm.trans harr
  have hz := Value.int.inj hv
  have hl := len_toInt hsm
  rw [← hz, q, hk] at hl
  omega
def QVals (Z : State) (h0 : Heap) (n0 : Nat) (v : Option Value) (h : Heap) (L : List Loc) : Prop := ∃ (b : Addr) (cl : Cell), v = some (.ref b) ∧ Fr n0 L ∧ Keep h0 h [] ∧ h0.size ≤ b ∧ Arr Z h b cl (.object "com/example/sober_links/soberlinks/io/LeftOutItems$Reason") ∧ cl.slots.size = 3
def QI (Z : State) (a1 : Addr) (h0 : Heap) (n0 : Nat) (v : Option Value) (h : Heap) (L : List Loc) : Prop := ∃ (b : Addr) (kb : ClassId), v = none ∧ Fr n0 L ∧ Keep h0 h [a1] ∧ h0.size ≤ b ∧ Fld Z h a1 "com/example/sober_links/soberlinks/io/LeftOutItems" "counts" "[I" (.ref b) ∧ Arv Z h b kb .int (3 : Int32) [(.int (0 : Int32)), (.int (0 : Int32)), (.int (0 : Int32))] (.int (0 : Int32))
def QAdd (Z : State) (b : Addr) (kb : ClassId) (y0 y1 y2 : Int32) (h0 : Heap) (n0 : Nat) (v : Option Value) (h : Heap) (L : List Loc) : Prop := v = none ∧ Fr n0 L ∧ Keep h0 h [b] ∧ Arv Z h b kb .int (3 : Int32) [(.int y0), (.int y1), (.int y2)] (.int (0 : Int32))
theorem d3_0 : decode prog_36_method_1_code 0 = .ok (.getstatic 13, 3) := by decide +kernel
theorem d3_3 : decode prog_36_method_1_code 3 = .ok (.invokevirtual 17, 3) := by decide +kernel
theorem d3_6 : decode prog_36_method_1_code 6 = .ok (.checkcast 18, 3) := by decide +kernel
theorem d3_9 : decode prog_36_method_1_code 9 = .ok (.areturn, 1) := by decide +kernel
theorem pn_3 : plainFor (⟨"com/example/sober_links/soberlinks/io/LeftOutItems$Reason", "values", "()[Lcom/example/sober_links/soberlinks/io/LeftOutItems$Reason;"⟩ : MethodName) = true := plainFor_of_name (show plainName "com/example/sober_links/soberlinks/io/LeftOutItems$Reason" = true by first | (simp [plainName, overriddenIn]; done) | decide +kernel)
theorem ef_rm1 (m : MethodId)  : entryFrame m #[] 0 = mkF m 0 #[] [] := by first | (simp [entryFrame, mkF, argsToLocals, Value.category]; done) | rfl
set_option maxRecDepth 65536 in
set_option maxHeartbeats 40000000 in
theorem rm1 (l : Launch) (Z : State) (a0 : Array Value) (hw : ∀ d ∈ tables_1, d.before a0 Z = true) (ws : List Jvm.Cond) (xV : Addr) (cv : Cell) (h0 : Heap) (n0 : Nat) (Z0 : n0 ≤ h0.size) (S_qVALUES : Sta Z Z.heap "com/example/sober_links/soberlinks/io/LeftOutItems$Reason" "$VALUES" "[Lcom/example/sober_links/soberlinks/io/LeftOutItems$Reason;" (.ref xV)) (O_0 : Old Z n0 h0) (A_v : Arr Z h0 xV cv (.object "com/example/sober_links/soberlinks/io/LeftOutItems$Reason")) (E_xV : Exa Z h0 xV "[Lcom/example/sober_links/soberlinks/io/LeftOutItems$Reason;") (F_v : FitC Z cv) (sz_v : cv.slots.size = 3) :
    MetFree l (⟨"com/example/sober_links/soberlinks/io/LeftOutItems$Reason", "values", "()[Lcom/example/sober_links/soberlinks/io/LeftOutItems$Reason;"⟩ : MethodName) (head1 (Jvm.Cond.code (⟨"com/example/sober_links/soberlinks/io/LeftOutItems$Reason", "values", "()[Lcom/example/sober_links/soberlinks/io/LeftOutItems$Reason;"⟩ : MethodName) prog_36_method_1_code 0 (some (.array (.object "com/example/sober_links/soberlinks/io/LeftOutItems$Reason"))) :: ws) ({ frames := 1, cells := 1, slots := 3, locals := 14 } : Room)) (fun a U => a = #[] ∧ Z.Warmed39 U.vm ∧ U.heap = h0) (fun _ _ _ _ _ => True) (fun _ U o U' => ∃ v L, o = .returned v ∧ QVals Z h0 n0 v U'.heap L ∧ FrameEnd U o U' L ({ frames := 1, cells := 1, slots := 3, locals := 14 } : Room).cells ({ frames := 1, cells := 1, slots := 3, locals := 14 } : Room).slots) := by
  refine own_enter pn_3 ?_
  intro p e s m below meth c s₁ QQ hQQ hx hby hml hown hnm hret hlk hZ X0 e0
  have hown : s.vm.findClass "com/example/sober_links/soberlinks/io/LeftOutItems$Reason" = some m.cls := hown
  have hml : c.maxLocals = 0 := hml
  have hret : meth.sig.returnType = some (.array (.object "com/example/sober_links/soberlinks/io/LeftOutItems$Reason")) := hret
  have N0 := Fr.nil n0
  have K0 := Keep.refl h0 []
  refine Goes.cast (ef_rm1 m ) ?_
  show Goes p e below QQ (s₁.setTop (mkF m 0 #[] []))
  obtain ⟨T1, X1, e1, st1⟩ := getS2 X0 hx hZ hown (host := "") (Or.inl (hw _ (List.mem_of_getElem? (i := 14) rfl))) Via.refl e0 (S_qVALUES.ext O_0.2) (g := (mkF m 0 #[] [])) rfl (hb hby d3_0)
  refine Goes.on (fun t k => st1 t k) ?_
  show Goes p e below QQ (T1.setTop (mkF m 3 #[] [(.ref xV)]))
  obtain ⟨T9, h9, X9, e9, E9, A9, B9, st9⟩ := cloneA X1 hx hZ hown (hw _ (List.mem_of_getElem? (i := 16) rfl)) (hw _ (List.mem_of_getElem? (i := 17) rfl)) (hw _ (List.mem_of_getElem? (i := 21) rfl)) (hw _ (List.mem_of_getElem? (i := 19) rfl)) (hw _ (List.mem_of_getElem? (i := 20) rfl)) (hw _ (List.mem_of_getElem? (i := 22) rfl)) e1 A_v E_xV F_v (g := (mkF m 3 #[] [(.ref xV)])) rfl (by rw [hml]; rfl) rfl (hb hby d3_3) (by decide) (W := 0) (cap := 3) (by show 2 * 0 + _ ≤ _; exact Nat.le_of_eq rfl) (by decide) (by rw [sz_v]; exact Nat.le_refl _) (by decide) (by decide)
  obtain ⟨b9, g9⟩ : ∃ z, z = h0.size := ⟨_, rfl⟩
  rw [← g9] at A9 B9 st9
  have sz_b9 : h0.size ≤ b9 := Nat.le_trans K0.1 (Nat.le_of_eq g9.symm)
  have g_b9 : n0 ≤ b9 := Nat.le_trans Z0 sz_b9
  have ne_xV_b9 : xV ≠ b9 := Nat.ne_of_lt (Nat.lt_of_lt_of_le E_xV.lt (Nat.le_of_eq g9.symm))
  have O_21 := O_0.ext E9
  have E_22 := E_xV.ext E9
  have K9 := K0.ext E9
  refine Goes.on (fun t k => st9 t k) ?_
  show Goes p e below QQ (T9.setTop (mkF m 6 #[] [(.ref b9)]))
  obtain ⟨T23, X23, e23, st23⟩ := castY X9 hx hZ hown (hw _ (List.mem_of_getElem? (i := 27) rfl)) e9 (Ins.self B9) (g := (mkF m 6 #[] [(.ref b9)])) rfl rfl (hb hby d3_6)
  refine Goes.on (fun t k => st23 t k) ?_
  show Goes p e below QQ (T23.setTop (mkF m 9 #[] [(.ref b9)]))
  exact Goes.rA X23 hx hret rfl rfl hlk (hb hby d3_9) hQQ (by rw [e23]; exact ⟨b9, _, rfl, N0, K9, sz_b9, A9, sz_v⟩) (by decide) (by decide)
theorem d1_0 : decode prog_35_method_1_code 0 = .ok (.aload_n 0, 1) := by decide +kernel
theorem d1_1 : decode prog_35_method_1_code 1 = .ok (.invokespecial 1, 3) := by decide +kernel
theorem d1_4 : decode prog_35_method_1_code 4 = .ok (.aload_n 0, 1) := by decide +kernel
theorem d1_5 : decode prog_35_method_1_code 5 = .ok (.invokestatic 7, 3) := by decide +kernel
theorem d1_8 : decode prog_35_method_1_code 8 = .ok (.arraylength, 1) := by decide +kernel
theorem d1_9 : decode prog_35_method_1_code 9 = .ok (.newarray .int, 2) := by decide +kernel
theorem d1_11 : decode prog_35_method_1_code 11 = .ok (.putfield 13, 3) := by decide +kernel
theorem d1_14 : decode prog_35_method_1_code 14 = .ok (.return_, 1) := by decide +kernel
theorem pn_1 : plainFor (⟨"com/example/sober_links/soberlinks/io/LeftOutItems", "<init>", "()V"⟩ : MethodName) = true := plainFor_of_name (show plainName "com/example/sober_links/soberlinks/io/LeftOutItems" = true by first | (simp [plainName, overriddenIn]; done) | decide +kernel)
theorem ef_rm2 (m : MethodId) (x0 : Addr) : entryFrame m #[(.ref x0)] 1 = mkF m 0 #[rv x0] [] := by first | (simp [entryFrame, mkF, argsToLocals, Value.category]; done) | rfl
theorem pd_0 : parseMethodDescriptor "()[Lcom/example/sober_links/soberlinks/io/LeftOutItems$Reason;" = some ⟨[], some (.array (.object "com/example/sober_links/soberlinks/io/LeftOutItems$Reason"))⟩ := by decide +kernel
set_option maxRecDepth 65536 in
set_option maxHeartbeats 40000000 in
theorem rm2 (l : Launch) (Z : State) (a0 : Array Value) (hw : ∀ d ∈ tables_1, d.before a0 Z = true) (ws : List Jvm.Cond) (a1 xV : Addr) (cv : Cell) (h0 : Heap) (n0 : Nat) (Z0 : n0 ≤ h0.size) (S_qVALUES : Sta Z Z.heap "com/example/sober_links/soberlinks/io/LeftOutItems$Reason" "$VALUES" "[Lcom/example/sober_links/soberlinks/io/LeftOutItems$Reason;" (.ref xV)) (O_0 : Old Z n0 h0) (A_v : Arr Z h0 xV cv (.object "com/example/sober_links/soberlinks/io/LeftOutItems$Reason")) (E_xV : Exa Z h0 xV "[Lcom/example/sober_links/soberlinks/io/LeftOutItems$Reason;") (F_v : FitC Z cv) (sz_v : cv.slots.size = 3) (E_a1 : Exa Z h0 a1 "com/example/sober_links/soberlinks/io/LeftOutItems") (F_counts_a1 : Fld Z h0 a1 "com/example/sober_links/soberlinks/io/LeftOutItems" "counts" "[I" .null) (g_a1 : n0 ≤ a1) :
    MetFree l (⟨"com/example/sober_links/soberlinks/io/LeftOutItems", "<init>", "()V"⟩ : MethodName) (head1 (Jvm.Cond.code (⟨"com/example/sober_links/soberlinks/io/LeftOutItems", "<init>", "()V"⟩ : MethodName) prog_35_method_1_code 1 none :: ws) ({ frames := 2, cells := 2, slots := 6, locals := 26 } : Room)) (fun a U => a = #[(.ref a1)] ∧ Z.Warmed39 U.vm ∧ U.heap = h0) (fun _ _ _ _ _ => True) (fun _ U o U' => ∃ v L, o = .returned v ∧ QI Z a1 h0 n0 v U'.heap L ∧ FrameEnd U o U' L ({ frames := 2, cells := 2, slots := 6, locals := 26 } : Room).cells ({ frames := 2, cells := 2, slots := 6, locals := 26 } : Room).slots) := by
  refine own_enter pn_1 ?_
  intro p e s m below meth c s₁ QQ hQQ hx hby hml hown hnm hret hlk hZ X0 e0
  have hown : s.vm.findClass "com/example/sober_links/soberlinks/io/LeftOutItems" = some m.cls := hown
  have hml : c.maxLocals = 1 := hml
  have hret : meth.sig.returnType = none := hret
  have N0 := Fr.nil n0
  have K0 := Keep.refl h0 [a1]
  refine Goes.cast (ef_rm2 m a1) ?_
  show Goes p e below QQ (s₁.setTop (mkF m 0 #[rv a1] []))
  refine Goes.on (fun t k => XS.aloadN X0.here hx rfl (hb hby d1_0) rfl rfl k) ?_
  show Goes p e below QQ (s₁.setTop (mkF m 1 #[rv a1] [(.ref a1)]))
  obtain ⟨T1, X1, e1, st1⟩ := initO X0 hx hZ hown (hw _ (List.mem_of_getElem? (i := 7) rfl)) (hw _ (List.mem_of_getElem? (i := 8) rfl)) (hw _ (List.mem_of_getElem? (i := 9) rfl)) e0 (g := (mkF m 1 #[rv a1] [(.ref a1)])) rfl (by rw [hml]; rfl) rfl (hb hby d1_1) (by decide) (W := 0) (by show 2 * 0 + _ ≤ _; exact Nat.le_of_eq rfl) (by decide)
  refine Goes.on (fun t k => st1 t k) ?_
  show Goes p e below QQ (T1.setTop (mkF m 4 #[rv a1] []))
  refine Goes.on (fun t k => XS.aloadN X1.here hx rfl (hb hby d1_4) rfl rfl k) ?_
  show Goes p e below QQ (T1.setTop (mkF m 5 #[rv a1] [(.ref a1)]))
  obtain ⟨_, _, ⟨T2, L2, k2, n2⟩, -, X2, ⟨Lc2, hQ2, l2, y2, z2⟩, st2⟩ := Jvm.LawKit.callS X1 hx (y := (⟨"com/example/sober_links/soberlinks/io/LeftOutItems$Reason", "values", "()[Lcom/example/sober_links/soberlinks/io/LeftOutItems$Reason;"⟩ : MethodName)) hown (mvT hZ (hw _ (List.mem_of_getElem? (i := 10) rfl))) (mvT hZ (hw _ (List.mem_of_getElem? (i := 11) rfl))) (mvT hZ (hw _ (List.mem_of_getElem? (i := 12) rfl))) (mvT hZ (hw _ (List.mem_of_getElem? (i := 13) rfl))) (by decide) (backOf (W := 1) (rm1 l Z a0 hw [] xV cv h0 n0 (Nat.le_trans Z0 K0.1) S_qVALUES O_0 A_v E_xV F_v sz_v) hZ (hw _ (List.mem_of_getElem? (i := 13) rfl)) (hw _ (List.mem_of_getElem? (i := 12) rfl)) (by decide) (by decide)) (g := (mkF m 5 #[rv a1] [(.ref a1)])) rfl (by rw [hml]; rfl) (argsL := []) (rest := [(.ref a1)]) (lenOf pd_0 rfl) rfl (by show 2 * 0 + _ ≤ _; exact Nat.le_of_eq rfl) (hb hby d1_5) (fun _ _ => ⟨rfl, e1, (by decide : 0 + 1 ≤ _), (by decide : 0 + 3 ≤ _)⟩)
  dsimp only [Pt.U, Pt.locs, Pt.cells, Pt.slots] at X2 l2 y2 z2 st2 hQ2
  subst l2 y2 z2
  obtain ⟨bv, cl, rfl, M2, Kc, szc, Ar, hsz⟩ := hQ2
  have sz_bv : h0.size ≤ bv := Nat.le_trans K0.1 szc
  have g_bv : n0 ≤ bv := Nat.le_trans Z0 sz_bv
  have ne_xV_bv : xV ≠ bv := Nat.ne_of_lt (Nat.lt_of_lt_of_le E_xV.lt szc)
  have ne_a1_bv : a1 ≠ bv := Nat.ne_of_lt (Nat.lt_of_lt_of_le E_a1.lt szc)
  have N2 := Fr.app N0 M2
  refine Goes.on (fun t k => st2 _ k) ?_
  have O_3 := O_0.keep Kc all0
  have E_4 := E_xV.keep Kc
  have E_5 := E_a1.keep Kc
  have F_6 := F_counts_a1.keep Kc nin0
  have K7 := K0.trans Kc all0
  show Goes p e below QQ (T2.setTop (mkF m 8 #[rv a1] [(.ref bv), (.ref a1)]))
  refine Goes.on (fun t k => X2.arraylength hx Ar.1 (State.isArrayOf_alike hZ.alike Ar.2.1) (g := (mkF m 8 #[rv a1] [(.ref bv), (.ref a1)])) rfl rfl (hb hby d1_8) t k) ?_
  rw [hsz, (rfl : Nat.toInt32 3 = (3 : Int32))]
  show Goes p e below QQ (T2.setTop (mkF m 9 #[rv a1] [(.int 3), (.ref a1)]))
  obtain ⟨T8, h8, k8, X8, e8, E8, A8, st8⟩ := newP X2 hx hZ (hw _ (List.mem_of_getElem? (i := 29) rfl)) rfl (g := (mkF m 9 #[rv a1] [(.int 3), (.ref a1)])) rfl (hb hby d1_9) rfl (by decide) (cap := 3) (by decide) (by decide) (by decide) (by decide)
  obtain ⟨b8, g8⟩ : ∃ z, z = T2.heap.size := ⟨_, rfl⟩
  rw [← g8] at A8 st8
  have sz_b8 : h0.size ≤ b8 := Nat.le_trans K7.1 (Nat.le_of_eq g8.symm)
  have g_b8 : n0 ≤ b8 := Nat.le_trans Z0 sz_b8
  have ne_xV_b8 : xV ≠ b8 := Nat.ne_of_lt (Nat.lt_of_lt_of_le E_4.lt (Nat.le_of_eq g8.symm))
  have ne_a1_b8 : a1 ≠ b8 := Nat.ne_of_lt (Nat.lt_of_lt_of_le E_5.lt (Nat.le_of_eq g8.symm))
  have O_9 := O_3.ext E8
  have E_10 := E_4.ext E8
  have E_11 := E_5.ext E8
  have F_12 := F_6.ext E8
  have K8 := K7.ext E8
  have V_13 : Arv Z h8 b8 k8 .int (3 : Int32) [(.int 0), (.int 0), (.int 0)] (.int 0) := (Arv.new A8 (by decide)).pad (pad_rep [] (.int 0) 3)
  refine Goes.on (fun t k => st8 t k) ?_
  show Goes p e below QQ (T8.setTop (mkF m 11 #[rv a1] [(.ref b8), (.ref a1)]))
  obtain ⟨T14, h14, X14, e14, W14, st14⟩ := putF X8 hx hZ hown (host := "") (Or.inl (hw _ (List.mem_of_getElem? (i := 30) rfl))) Via.refl e8 F_12 E_11 (Or.inr ⟨(hw _ (List.mem_of_getElem? (i := 31) rfl)), rfl, hnm⟩) (hw _ (List.mem_of_getElem? (i := 2) rfl)) (ty := (.array .int)) (by decide) rfl rfl (g := (mkF m 11 #[rv a1] [(.ref b8), (.ref a1)])) rfl rfl (hb hby d1_11)
  have O_15 := O_9.wr W14 g_a1
  have E_16 := E_10.wr W14
  have E_17 := E_11.wr W14
  have V_18 := V_13.other W14 (Ne.symm ne_a1_b8)
  have K14 := K8.wr W14 (Or.inl (List.mem_of_getElem? (i := 0) rfl))
  have N14 := Fr.snoc X14 N2 g_a1
  have F_19 := (F_12.same W14 : Fld Z h14 a1 "com/example/sober_links/soberlinks/io/LeftOutItems" "counts" "[I" (.ref b8))
  refine Goes.on (fun t k => st14 t k) ?_
  show Goes p e below QQ (T14.setTop (mkF m 14 #[rv a1] []))
  exact Goes.rV X14 hx hret hlk (hb hby d1_14) hQQ (by rw [e14]; exact ⟨b8, k8, rfl, N14, K14, sz_b8, F_19, V_18⟩) (by decide) (by decide)
theorem d6_0 : decode jdk_37_method_2_code 0 = .ok (.aload_n 0, 1) := by decide +kernel
theorem d6_1 : decode jdk_37_method_2_code 1 = .ok (.getfield 7, 3) := by decide +kernel
theorem d6_4 : decode jdk_37_method_2_code 4 = .ok (.ireturn, 1) := by decide +kernel
theorem pn_6 : plainFor (⟨"java/lang/Enum", "ordinal", "()I"⟩ : MethodName) = true := plainFor_of_name (show plainName "java/lang/Enum" = true by first | (simp [plainName, overriddenIn]; done) | decide +kernel)
theorem ef_rm3 (m : MethodId) (x0 : Addr) : entryFrame m #[(.ref x0)] 1 = mkF m 0 #[rv x0] [] := by first | (simp [entryFrame, mkF, argsToLocals, Value.category]; done) | rfl
set_option maxRecDepth 65536 in
set_option maxHeartbeats 40000000 in
theorem rm3 (l : Launch) (Z : State) (a0 : Array Value) (hw : ∀ d ∈ tables_1, d.before a0 Z = true) (ws : List Jvm.Cond) (a1 : Addr) (p1 : Int32) (h0 : Heap) (n0 : Nat) (Z0 : n0 ≤ h0.size) (F_ordinal_a1 : Fld Z h0 a1 "java/lang/Enum" "ordinal" "I" (.int p1)) :
    MetFree l (⟨"java/lang/Enum", "ordinal", "()I"⟩ : MethodName) (head1 (Jvm.Cond.code (⟨"java/lang/Enum", "ordinal", "()I"⟩ : MethodName) jdk_37_method_2_code 1 (some .int) :: ws) ({ frames := 0, cells := 0, slots := 0, locals := 0 } : Room)) (fun a U => a = #[(.ref a1)] ∧ Z.Warmed39 U.vm ∧ U.heap = h0) (fun _ _ _ _ _ => True) (fun _ U o U' => ∃ v L, o = .returned v ∧ QP (.int p1) h0 n0 v U'.heap L ∧ FrameEnd U o U' L ({ frames := 0, cells := 0, slots := 0, locals := 0 } : Room).cells ({ frames := 0, cells := 0, slots := 0, locals := 0 } : Room).slots) := by
  refine own_enter pn_6 ?_
  intro p e s m below meth c s₁ QQ hQQ hx hby hml hown hnm hret hlk hZ X0 e0
  have hown : s.vm.findClass "java/lang/Enum" = some m.cls := hown
  have hml : c.maxLocals = 1 := hml
  have hret : meth.sig.returnType = some .int := hret
  have N0 := Fr.nil n0
  have K0 := Keep.refl h0 []
  refine Goes.cast (ef_rm3 m a1) ?_
  show Goes p e below QQ (s₁.setTop (mkF m 0 #[rv a1] []))
  refine Goes.on (fun t k => XS.aloadN X0.here hx rfl (hb hby d6_0) rfl rfl k) ?_
  show Goes p e below QQ (s₁.setTop (mkF m 1 #[rv a1] [(.ref a1)]))
  obtain ⟨T1, X1, e1, st1⟩ := getF X0 hx hZ hown (host := "") (Or.inl (hw _ (List.mem_of_getElem? (i := 50) rfl))) Via.refl e0 F_ordinal_a1 (g := (mkF m 1 #[rv a1] [(.ref a1)])) rfl rfl (hb hby d6_1)
  refine Goes.on (fun t k => st1 t k) ?_
  show Goes p e below QQ (T1.setTop (mkF m 4 #[rv a1] [(.int p1)]))
  exact Goes.rI X1 hx hret hlk (hb hby d6_4) hQQ ⟨rfl, N0, e1⟩ (by decide) (by decide)
theorem d5_0 : decode prog_35_method_5_code 0 = .ok (.aload_n 0, 1) := by decide +kernel
theorem d5_1 : decode prog_35_method_5_code 1 = .ok (.getfield 13, 3) := by decide +kernel
theorem d5_4 : decode prog_35_method_5_code 4 = .ok (.aload_n 1, 1) := by decide +kernel
theorem d5_5 : decode prog_35_method_5_code 5 = .ok (.invokevirtual 19, 3) := by decide +kernel
theorem d5_8 : decode prog_35_method_5_code 8 = .ok (.dup2, 1) := by decide +kernel
theorem d5_9 : decode prog_35_method_5_code 9 = .ok (.iaload, 1) := by decide +kernel
theorem d5_10 : decode prog_35_method_5_code 10 = .ok (.iload_n 2, 1) := by decide +kernel
theorem d5_11 : decode prog_35_method_5_code 11 = .ok (.iadd, 1) := by decide +kernel
theorem d5_12 : decode prog_35_method_5_code 12 = .ok (.iastore, 1) := by decide +kernel
theorem d5_13 : decode prog_35_method_5_code 13 = .ok (.return_, 1) := by decide +kernel
theorem pn_5 : plainFor (⟨"com/example/sober_links/soberlinks/io/LeftOutItems", "add", "(Lcom/example/sober_links/soberlinks/io/LeftOutItems$Reason;I)V"⟩ : MethodName) = true := plainFor_of_name (show plainName "com/example/sober_links/soberlinks/io/LeftOutItems" = true by first | (simp [plainName, overriddenIn]; done) | decide +kernel)
theorem ef_rm4_0 (m : MethodId) (x0 : Addr) (x1 : Addr) (x2 : Int32) : entryFrame m #[(.ref x0), (.ref x1), (.int x2)] 3 = mkF m 0 #[rv x0, rv x1, iv x2] [] := by first | (simp [entryFrame, mkF, argsToLocals, Value.category]; done) | rfl
theorem pd_1 : parseMethodDescriptor "()I" = some ⟨[], some .int⟩ := by decide +kernel
set_option maxRecDepth 65536 in
set_option maxHeartbeats 40000000 in
theorem rm4_0 (l : Launch) (Z : State) (a0 : Array Value) (hw : ∀ d ∈ tables_1, d.before a0 Z = true) (ws : List Jvm.Cond) (a1 a2 b1 : Addr) (kb : ClassId) (y0 y1 y2 p1 : Int32) (h0 : Heap) (n0 : Nat) (Z0 : n0 ≤ h0.size) (F_counts_a1 : Fld Z h0 a1 "com/example/sober_links/soberlinks/io/LeftOutItems" "counts" "[I" (.ref b1)) (E_a2 : Exa Z h0 a2 "com/example/sober_links/soberlinks/io/LeftOutItems$Reason") (F_ordinal_a2 : Fld Z h0 a2 "java/lang/Enum" "ordinal" "I" (.int 0)) (V_b1 : Arv Z h0 b1 kb .int (3 : Int32) [(.int y0), (.int y1), (.int y2)] (.int 0)) (g_b1 : n0 ≤ b1) (ne_a1_b1 : a1 ≠ b1) (ne_a2_b1 : a2 ≠ b1) :
    MetFree l (⟨"com/example/sober_links/soberlinks/io/LeftOutItems", "add", "(Lcom/example/sober_links/soberlinks/io/LeftOutItems$Reason;I)V"⟩ : MethodName) (head1 (Jvm.Cond.code (⟨"com/example/sober_links/soberlinks/io/LeftOutItems", "add", "(Lcom/example/sober_links/soberlinks/io/LeftOutItems$Reason;I)V"⟩ : MethodName) prog_35_method_5_code 3 none :: ws) ({ frames := 1, cells := 0, slots := 0, locals := 13 } : Room)) (fun a U => a = #[(.ref a1), (.ref a2), (.int p1)] ∧ Z.Warmed39 U.vm ∧ U.heap = h0) (fun _ _ _ _ _ => True) (fun _ U o U' => ∃ v L, o = .returned v ∧ QAdd Z b1 kb (y0 + p1) y1 y2 h0 n0 v U'.heap L ∧ FrameEnd U o U' L ({ frames := 1, cells := 0, slots := 0, locals := 13 } : Room).cells ({ frames := 1, cells := 0, slots := 0, locals := 13 } : Room).slots) := by
  refine own_enter pn_5 ?_
  intro p e s m below meth c s₁ QQ hQQ hx hby hml hown hnm hret hlk hZ X0 e0
  have hown : s.vm.findClass "com/example/sober_links/soberlinks/io/LeftOutItems" = some m.cls := hown
  have hml : c.maxLocals = 3 := hml
  have hret : meth.sig.returnType = none := hret
  have N0 := Fr.nil n0
  have K0 := Keep.refl h0 [b1]
  refine Goes.cast (ef_rm4_0 m a1 a2 p1) ?_
  show Goes p e below QQ (s₁.setTop (mkF m 0 #[rv a1, rv a2, iv p1] []))
  refine Goes.on (fun t k => XS.aloadN X0.here hx rfl (hb hby d5_0) rfl rfl k) ?_
  show Goes p e below QQ (s₁.setTop (mkF m 1 #[rv a1, rv a2, iv p1] [(.ref a1)]))
  obtain ⟨T1, X1, e1, st1⟩ := getF X0 hx hZ hown (host := "") (Or.inl (hw _ (List.mem_of_getElem? (i := 30) rfl))) Via.refl e0 F_counts_a1 (g := (mkF m 1 #[rv a1, rv a2, iv p1] [(.ref a1)])) rfl rfl (hb hby d5_1)
  refine Goes.on (fun t k => st1 t k) ?_
  show Goes p e below QQ (T1.setTop (mkF m 4 #[rv a1, rv a2, iv p1] [(.ref b1)]))
  refine Goes.on (fun t k => XS.aloadN X1.here hx rfl (hb hby d5_4) rfl rfl k) ?_
  show Goes p e below QQ (T1.setTop (mkF m 5 #[rv a1, rv a2, iv p1] [(.ref a2), (.ref b1)]))
  obtain ⟨cq2, kq2, q2a, q2b, q2c⟩ := isOf hZ e1 E_a2
  obtain ⟨_, _, ⟨T2, L2, k2, n2⟩, -, X2, ⟨Lc2, hQ2, l2, y2, z2⟩, st2⟩ := X1.virtualBackUp hx (x := (⟨"com/example/sober_links/soberlinks/io/LeftOutItems$Reason", "ordinal", "()I"⟩ : MethodName)) (y := (⟨"java/lang/Enum", "ordinal", "()I"⟩ : MethodName)) (owner := "java/lang/Enum") hown (mvT hZ (hw _ (List.mem_of_getElem? (i := 43) rfl))) (mvT hZ (hw _ (List.mem_of_getElem? (i := 44) rfl))) (mvT hZ (hw _ (List.mem_of_getElem? (i := 45) rfl))) (by decide) (mvT hZ (hw _ (List.mem_of_getElem? (i := 47) rfl))) (mvT hZ (hw _ (List.mem_of_getElem? (i := 46) rfl))) (backOf (W := 1) (rm3 l Z a0 hw [] a2 (0 : Int32) h0 n0 (Nat.le_trans Z0 K0.1) F_ordinal_a2) hZ (hw _ (List.mem_of_getElem? (i := 49) rfl)) (hw _ (List.mem_of_getElem? (i := 48) rfl)) (by decide) (by decide)) q2a q2c (g := (mkF m 5 #[rv a1, rv a2, iv p1] [(.ref a2), (.ref b1)])) rfl (by rw [hml]; rfl) (Steps.refl _) (argsL := []) (rest := [(.ref b1)]) (lenOf pd_1 rfl) rfl (by show 2 * 0 + _ ≤ _; exact Nat.le_of_eq rfl) (hb hby d5_5) (fun _ _ => ⟨rfl, e1, (by decide : 0 + 0 ≤ _), (by decide : 0 + 0 ≤ _)⟩)
  dsimp only [Pt.U, Pt.locs, Pt.cells, Pt.slots] at X2 l2 y2 z2 st2 hQ2
  subst l2 y2 z2
  obtain ⟨rfl, M2, e2⟩ := hQ2
  have N2 := Fr.app N0 M2
  refine Goes.on (fun t k => st2.trans k) ?_
  show Goes p e below QQ (T2.setTop (mkF m 8 #[rv a1, rv a2, iv p1] [(.int 0), (.ref b1)]))
  refine Goes.on (fun t k => Jvm.Free.XT.dup2 X2.here hx rfl (hb hby d5_8) rfl rfl rfl k) ?_
  show Goes p e below QQ (T2.setTop (mkF m 9 #[rv a1, rv a2, iv p1] [(.int 0), (.ref b1), (.int 0), (.ref b1)]))
  obtain ⟨cl3, Ar3, q3, S3, N3z, H3, G3⟩ := id V_b1
  have hin3 := inb_of (j := (0 : Int32)) S3 ⟨by decide, by decide⟩
  have hat3 := Has.at (v := (.int y0)) H3 hin3 rfl
  refine Goes.on (fun t k => X2.iaload hx (j := (0 : Int32)) (v := (.int y0)) (by rw [e2]; exact Ar3.1) (State.isArrayOf_alike hZ.alike Ar3.2.1) Ar3.2.2 hin3 hat3 (g := (mkF m 9 #[rv a1, rv a2, iv p1] [(.int 0), (.ref b1), (.int 0), (.ref b1)])) rfl rfl (hb hby d5_9) t k) ?_
  show Goes p e below QQ (T2.setTop (mkF m 10 #[rv a1, rv a2, iv p1] [(.int y0), (.int 0), (.ref b1)]))
  refine Goes.on (fun t k => XS.iloadN X2.here hx rfl (hb hby d5_10) rfl k) ?_
  show Goes p e below QQ (T2.setTop (mkF m 11 #[rv a1, rv a2, iv p1] [(.int p1), (.int y0), (.int 0), (.ref b1)]))
  refine Goes.on (fun t k => XS.iadd X2.here hx rfl (hb hby d5_11) rfl k) ?_
  show Goes p e below QQ (T2.setTop (mkF m 12 #[rv a1, rv a2, iv p1] [(.int (y0 + p1)), (.int 0), (.ref b1)]))
  obtain ⟨cl4, Ar4, q4, S4, N4z, H4, G4⟩ := id V_b1
  have hin4 := inb_of (j := (0 : Int32)) S4 ⟨by decide, by decide⟩
  obtain ⟨T5, h5, X5, e5, W5, st5⟩ := stI X2 hx hZ e2 Ar4 (j := (0 : Int32)) hin4 (g := (mkF m 12 #[rv a1, rv a2, iv p1] [(.int (y0 + p1)), (.int 0), (.ref b1)])) rfl rfl (hb hby d5_12)
  have F_6 := F_counts_a1.other W5 (Or.inl ne_a1_b1)
  have E_7 := E_a2.wr W5
  have F_8 := F_ordinal_a2.other W5 (Or.inl ne_a2_b1)
  have K5 := K0.wr W5 (Or.inl (List.mem_of_getElem? (i := 0) rfl))
  have N5 := Fr.snoc X5 N2 g_b1
  have V_9 := (Arv.set Ar4 q4 S4 N4z H4 G4 rfl W5 0 rfl (Nat.le_of_ble_eq_true rfl) : Arv Z h5 b1 kb .int (3 : Int32) [(.int (y0 + p1)), (.int y1), (.int y2)] (.int 0))
  refine Goes.on (fun t k => st5 t k) ?_
  show Goes p e below QQ (T5.setTop (mkF m 13 #[rv a1, rv a2, iv p1] []))
  exact Goes.rV X5 hx hret hlk (hb hby d5_13) hQQ (by rw [e5]; exact ⟨rfl, N5, K5, V_9⟩) (by decide) (by decide)
theorem ef_rm4_1 (m : MethodId) (x0 : Addr) (x1 : Addr) (x2 : Int32) : entryFrame m #[(.ref x0), (.ref x1), (.int x2)] 3 = mkF m 0 #[rv x0, rv x1, iv x2] [] := by first | (simp [entryFrame, mkF, argsToLocals, Value.category]; done) | rfl
set_option maxRecDepth 65536 in
set_option maxHeartbeats 40000000 in
theorem rm4_1 (l : Launch) (Z : State) (a0 : Array Value) (hw : ∀ d ∈ tables_1, d.before a0 Z = true) (ws : List Jvm.Cond) (a1 a2 b1 : Addr) (kb : ClassId) (y0 y1 y2 p1 : Int32) (h0 : Heap) (n0 : Nat) (Z0 : n0 ≤ h0.size) (F_counts_a1 : Fld Z h0 a1 "com/example/sober_links/soberlinks/io/LeftOutItems" "counts" "[I" (.ref b1)) (E_a2 : Exa Z h0 a2 "com/example/sober_links/soberlinks/io/LeftOutItems$Reason") (F_ordinal_a2 : Fld Z h0 a2 "java/lang/Enum" "ordinal" "I" (.int 1)) (V_b1 : Arv Z h0 b1 kb .int (3 : Int32) [(.int y0), (.int y1), (.int y2)] (.int 0)) (g_b1 : n0 ≤ b1) (ne_a1_b1 : a1 ≠ b1) (ne_a2_b1 : a2 ≠ b1) :
    MetFree l (⟨"com/example/sober_links/soberlinks/io/LeftOutItems", "add", "(Lcom/example/sober_links/soberlinks/io/LeftOutItems$Reason;I)V"⟩ : MethodName) (head1 (Jvm.Cond.code (⟨"com/example/sober_links/soberlinks/io/LeftOutItems", "add", "(Lcom/example/sober_links/soberlinks/io/LeftOutItems$Reason;I)V"⟩ : MethodName) prog_35_method_5_code 3 none :: ws) ({ frames := 1, cells := 0, slots := 0, locals := 13 } : Room)) (fun a U => a = #[(.ref a1), (.ref a2), (.int p1)] ∧ Z.Warmed39 U.vm ∧ U.heap = h0) (fun _ _ _ _ _ => True) (fun _ U o U' => ∃ v L, o = .returned v ∧ QAdd Z b1 kb y0 (y1 + p1) y2 h0 n0 v U'.heap L ∧ FrameEnd U o U' L ({ frames := 1, cells := 0, slots := 0, locals := 13 } : Room).cells ({ frames := 1, cells := 0, slots := 0, locals := 13 } : Room).slots) := by
  refine own_enter pn_5 ?_
  intro p e s m below meth c s₁ QQ hQQ hx hby hml hown hnm hret hlk hZ X0 e0
  have hown : s.vm.findClass "com/example/sober_links/soberlinks/io/LeftOutItems" = some m.cls := hown
  have hml : c.maxLocals = 3 := hml
  have hret : meth.sig.returnType = none := hret
  have N0 := Fr.nil n0
  have K0 := Keep.refl h0 [b1]
  refine Goes.cast (ef_rm4_1 m a1 a2 p1) ?_
  show Goes p e below QQ (s₁.setTop (mkF m 0 #[rv a1, rv a2, iv p1] []))
  refine Goes.on (fun t k => XS.aloadN X0.here hx rfl (hb hby d5_0) rfl rfl k) ?_
  show Goes p e below QQ (s₁.setTop (mkF m 1 #[rv a1, rv a2, iv p1] [(.ref a1)]))
  obtain ⟨T1, X1, e1, st1⟩ := getF X0 hx hZ hown (host := "") (Or.inl (hw _ (List.mem_of_getElem? (i := 30) rfl))) Via.refl e0 F_counts_a1 (g := (mkF m 1 #[rv a1, rv a2, iv p1] [(.ref a1)])) rfl rfl (hb hby d5_1)
  refine Goes.on (fun t k => st1 t k) ?_
  show Goes p e below QQ (T1.setTop (mkF m 4 #[rv a1, rv a2, iv p1] [(.ref b1)]))
  refine Goes.on (fun t k => XS.aloadN X1.here hx rfl (hb hby d5_4) rfl rfl k) ?_
  show Goes p e below QQ (T1.setTop (mkF m 5 #[rv a1, rv a2, iv p1] [(.ref a2), (.ref b1)]))
  obtain ⟨cq2, kq2, q2a, q2b, q2c⟩ := isOf hZ e1 E_a2
  obtain ⟨_, _, ⟨T2, L2, k2, n2⟩, -, X2, ⟨Lc2, hQ2, l2, y2, z2⟩, st2⟩ := X1.virtualBackUp hx (x := (⟨"com/example/sober_links/soberlinks/io/LeftOutItems$Reason", "ordinal", "()I"⟩ : MethodName)) (y := (⟨"java/lang/Enum", "ordinal", "()I"⟩ : MethodName)) (owner := "java/lang/Enum") hown (mvT hZ (hw _ (List.mem_of_getElem? (i := 43) rfl))) (mvT hZ (hw _ (List.mem_of_getElem? (i := 44) rfl))) (mvT hZ (hw _ (List.mem_of_getElem? (i := 45) rfl))) (by decide) (mvT hZ (hw _ (List.mem_of_getElem? (i := 47) rfl))) (mvT hZ (hw _ (List.mem_of_getElem? (i := 46) rfl))) (backOf (W := 1) (rm3 l Z a0 hw [] a2 (1 : Int32) h0 n0 (Nat.le_trans Z0 K0.1) F_ordinal_a2) hZ (hw _ (List.mem_of_getElem? (i := 49) rfl)) (hw _ (List.mem_of_getElem? (i := 48) rfl)) (by decide) (by decide)) q2a q2c (g := (mkF m 5 #[rv a1, rv a2, iv p1] [(.ref a2), (.ref b1)])) rfl (by rw [hml]; rfl) (Steps.refl _) (argsL := []) (rest := [(.ref b1)]) (lenOf pd_1 rfl) rfl (by show 2 * 0 + _ ≤ _; exact Nat.le_of_eq rfl) (hb hby d5_5) (fun _ _ => ⟨rfl, e1, (by decide : 0 + 0 ≤ _), (by decide : 0 + 0 ≤ _)⟩)
  dsimp only [Pt.U, Pt.locs, Pt.cells, Pt.slots] at X2 l2 y2 z2 st2 hQ2
  subst l2 y2 z2
  obtain ⟨rfl, M2, e2⟩ := hQ2
  have N2 := Fr.app N0 M2
  refine Goes.on (fun t k => st2.trans k) ?_
  show Goes p e below QQ (T2.setTop (mkF m 8 #[rv a1, rv a2, iv p1] [(.int 1), (.ref b1)]))
  refine Goes.on (fun t k => Jvm.Free.XT.dup2 X2.here hx rfl (hb hby d5_8) rfl rfl rfl k) ?_
  show Goes p e below QQ (T2.setTop (mkF m 9 #[rv a1, rv a2, iv p1] [(.int 1), (.ref b1), (.int 1), (.ref b1)]))
  obtain ⟨cl3, Ar3, q3, S3, N3z, H3, G3⟩ := id V_b1
  have hin3 := inb_of (j := (1 : Int32)) S3 ⟨by decide, by decide⟩
  have hat3 := Has.at (v := (.int y1)) H3 hin3 rfl
  refine Goes.on (fun t k => X2.iaload hx (j := (1 : Int32)) (v := (.int y1)) (by rw [e2]; exact Ar3.1) (State.isArrayOf_alike hZ.alike Ar3.2.1) Ar3.2.2 hin3 hat3 (g := (mkF m 9 #[rv a1, rv a2, iv p1] [(.int 1), (.ref b1), (.int 1), (.ref b1)])) rfl rfl (hb hby d5_9) t k) ?_
  show Goes p e below QQ (T2.setTop (mkF m 10 #[rv a1, rv a2, iv p1] [(.int y1), (.int 1), (.ref b1)]))
  refine Goes.on (fun t k => XS.iloadN X2.here hx rfl (hb hby d5_10) rfl k) ?_
  show Goes p e below QQ (T2.setTop (mkF m 11 #[rv a1, rv a2, iv p1] [(.int p1), (.int y1), (.int 1), (.ref b1)]))
  refine Goes.on (fun t k => XS.iadd X2.here hx rfl (hb hby d5_11) rfl k) ?_
  show Goes p e below QQ (T2.setTop (mkF m 12 #[rv a1, rv a2, iv p1] [(.int (y1 + p1)), (.int 1), (.ref b1)]))
  obtain ⟨cl4, Ar4, q4, S4, N4z, H4, G4⟩ := id V_b1
  have hin4 := inb_of (j := (1 : Int32)) S4 ⟨by decide, by decide⟩
  obtain ⟨T5, h5, X5, e5, W5, st5⟩ := stI X2 hx hZ e2 Ar4 (j := (1 : Int32)) hin4 (g := (mkF m 12 #[rv a1, rv a2, iv p1] [(.int (y1 + p1)), (.int 1), (.ref b1)])) rfl rfl (hb hby d5_12)
  have F_6 := F_counts_a1.other W5 (Or.inl ne_a1_b1)
  have E_7 := E_a2.wr W5
  have F_8 := F_ordinal_a2.other W5 (Or.inl ne_a2_b1)
  have K5 := K0.wr W5 (Or.inl (List.mem_of_getElem? (i := 0) rfl))
  have N5 := Fr.snoc X5 N2 g_b1
  have V_9 := (Arv.set Ar4 q4 S4 N4z H4 G4 rfl W5 1 rfl (Nat.le_of_ble_eq_true rfl) : Arv Z h5 b1 kb .int (3 : Int32) [(.int y0), (.int (y1 + p1)), (.int y2)] (.int 0))
  refine Goes.on (fun t k => st5 t k) ?_
  show Goes p e below QQ (T5.setTop (mkF m 13 #[rv a1, rv a2, iv p1] []))
  exact Goes.rV X5 hx hret hlk (hb hby d5_13) hQQ (by rw [e5]; exact ⟨rfl, N5, K5, V_9⟩) (by decide) (by decide)
theorem ef_rm4_2 (m : MethodId) (x0 : Addr) (x1 : Addr) (x2 : Int32) : entryFrame m #[(.ref x0), (.ref x1), (.int x2)] 3 = mkF m 0 #[rv x0, rv x1, iv x2] [] := by first | (simp [entryFrame, mkF, argsToLocals, Value.category]; done) | rfl
set_option maxRecDepth 65536 in
set_option maxHeartbeats 40000000 in
theorem rm4_2 (l : Launch) (Z : State) (a0 : Array Value) (hw : ∀ d ∈ tables_1, d.before a0 Z = true) (ws : List Jvm.Cond) (a1 a2 b1 : Addr) (kb : ClassId) (y0 y1 y2 p1 : Int32) (h0 : Heap) (n0 : Nat) (Z0 : n0 ≤ h0.size) (F_counts_a1 : Fld Z h0 a1 "com/example/sober_links/soberlinks/io/LeftOutItems" "counts" "[I" (.ref b1)) (E_a2 : Exa Z h0 a2 "com/example/sober_links/soberlinks/io/LeftOutItems$Reason") (F_ordinal_a2 : Fld Z h0 a2 "java/lang/Enum" "ordinal" "I" (.int 2)) (V_b1 : Arv Z h0 b1 kb .int (3 : Int32) [(.int y0), (.int y1), (.int y2)] (.int 0)) (g_b1 : n0 ≤ b1) (ne_a1_b1 : a1 ≠ b1) (ne_a2_b1 : a2 ≠ b1) :
    MetFree l (⟨"com/example/sober_links/soberlinks/io/LeftOutItems", "add", "(Lcom/example/sober_links/soberlinks/io/LeftOutItems$Reason;I)V"⟩ : MethodName) (head1 (Jvm.Cond.code (⟨"com/example/sober_links/soberlinks/io/LeftOutItems", "add", "(Lcom/example/sober_links/soberlinks/io/LeftOutItems$Reason;I)V"⟩ : MethodName) prog_35_method_5_code 3 none :: ws) ({ frames := 1, cells := 0, slots := 0, locals := 13 } : Room)) (fun a U => a = #[(.ref a1), (.ref a2), (.int p1)] ∧ Z.Warmed39 U.vm ∧ U.heap = h0) (fun _ _ _ _ _ => True) (fun _ U o U' => ∃ v L, o = .returned v ∧ QAdd Z b1 kb y0 y1 (y2 + p1) h0 n0 v U'.heap L ∧ FrameEnd U o U' L ({ frames := 1, cells := 0, slots := 0, locals := 13 } : Room).cells ({ frames := 1, cells := 0, slots := 0, locals := 13 } : Room).slots) := by
  refine own_enter pn_5 ?_
  intro p e s m below meth c s₁ QQ hQQ hx hby hml hown hnm hret hlk hZ X0 e0
  have hown : s.vm.findClass "com/example/sober_links/soberlinks/io/LeftOutItems" = some m.cls := hown
  have hml : c.maxLocals = 3 := hml
  have hret : meth.sig.returnType = none := hret
  have N0 := Fr.nil n0
  have K0 := Keep.refl h0 [b1]
  refine Goes.cast (ef_rm4_2 m a1 a2 p1) ?_
  show Goes p e below QQ (s₁.setTop (mkF m 0 #[rv a1, rv a2, iv p1] []))
  refine Goes.on (fun t k => XS.aloadN X0.here hx rfl (hb hby d5_0) rfl rfl k) ?_
  show Goes p e below QQ (s₁.setTop (mkF m 1 #[rv a1, rv a2, iv p1] [(.ref a1)]))
  obtain ⟨T1, X1, e1, st1⟩ := getF X0 hx hZ hown (host := "") (Or.inl (hw _ (List.mem_of_getElem? (i := 30) rfl))) Via.refl e0 F_counts_a1 (g := (mkF m 1 #[rv a1, rv a2, iv p1] [(.ref a1)])) rfl rfl (hb hby d5_1)
  refine Goes.on (fun t k => st1 t k) ?_
  show Goes p e below QQ (T1.setTop (mkF m 4 #[rv a1, rv a2, iv p1] [(.ref b1)]))
  refine Goes.on (fun t k => XS.aloadN X1.here hx rfl (hb hby d5_4) rfl rfl k) ?_
  show Goes p e below QQ (T1.setTop (mkF m 5 #[rv a1, rv a2, iv p1] [(.ref a2), (.ref b1)]))
  obtain ⟨cq2, kq2, q2a, q2b, q2c⟩ := isOf hZ e1 E_a2
  obtain ⟨_, _, ⟨T2, L2, k2, n2⟩, -, X2, ⟨Lc2, hQ2, l2, y2, z2⟩, st2⟩ := X1.virtualBackUp hx (x := (⟨"com/example/sober_links/soberlinks/io/LeftOutItems$Reason", "ordinal", "()I"⟩ : MethodName)) (y := (⟨"java/lang/Enum", "ordinal", "()I"⟩ : MethodName)) (owner := "java/lang/Enum") hown (mvT hZ (hw _ (List.mem_of_getElem? (i := 43) rfl))) (mvT hZ (hw _ (List.mem_of_getElem? (i := 44) rfl))) (mvT hZ (hw _ (List.mem_of_getElem? (i := 45) rfl))) (by decide) (mvT hZ (hw _ (List.mem_of_getElem? (i := 47) rfl))) (mvT hZ (hw _ (List.mem_of_getElem? (i := 46) rfl))) (backOf (W := 1) (rm3 l Z a0 hw [] a2 (2 : Int32) h0 n0 (Nat.le_trans Z0 K0.1) F_ordinal_a2) hZ (hw _ (List.mem_of_getElem? (i := 49) rfl)) (hw _ (List.mem_of_getElem? (i := 48) rfl)) (by decide) (by decide)) q2a q2c (g := (mkF m 5 #[rv a1, rv a2, iv p1] [(.ref a2), (.ref b1)])) rfl (by rw [hml]; rfl) (Steps.refl _) (argsL := []) (rest := [(.ref b1)]) (lenOf pd_1 rfl) rfl (by show 2 * 0 + _ ≤ _; exact Nat.le_of_eq rfl) (hb hby d5_5) (fun _ _ => ⟨rfl, e1, (by decide : 0 + 0 ≤ _), (by decide : 0 + 0 ≤ _)⟩)
  dsimp only [Pt.U, Pt.locs, Pt.cells, Pt.slots] at X2 l2 y2 z2 st2 hQ2
  subst l2 y2 z2
  obtain ⟨rfl, M2, e2⟩ := hQ2
  have N2 := Fr.app N0 M2
  refine Goes.on (fun t k => st2.trans k) ?_
  show Goes p e below QQ (T2.setTop (mkF m 8 #[rv a1, rv a2, iv p1] [(.int 2), (.ref b1)]))
  refine Goes.on (fun t k => Jvm.Free.XT.dup2 X2.here hx rfl (hb hby d5_8) rfl rfl rfl k) ?_
  show Goes p e below QQ (T2.setTop (mkF m 9 #[rv a1, rv a2, iv p1] [(.int 2), (.ref b1), (.int 2), (.ref b1)]))
  obtain ⟨cl3, Ar3, q3, S3, N3z, H3, G3⟩ := id V_b1
  have hin3 := inb_of (j := (2 : Int32)) S3 ⟨by decide, by decide⟩
  have hat3 := Has.at (v := (.int y2)) H3 hin3 rfl
  refine Goes.on (fun t k => X2.iaload hx (j := (2 : Int32)) (v := (.int y2)) (by rw [e2]; exact Ar3.1) (State.isArrayOf_alike hZ.alike Ar3.2.1) Ar3.2.2 hin3 hat3 (g := (mkF m 9 #[rv a1, rv a2, iv p1] [(.int 2), (.ref b1), (.int 2), (.ref b1)])) rfl rfl (hb hby d5_9) t k) ?_
  show Goes p e below QQ (T2.setTop (mkF m 10 #[rv a1, rv a2, iv p1] [(.int y2), (.int 2), (.ref b1)]))
  refine Goes.on (fun t k => XS.iloadN X2.here hx rfl (hb hby d5_10) rfl k) ?_
  show Goes p e below QQ (T2.setTop (mkF m 11 #[rv a1, rv a2, iv p1] [(.int p1), (.int y2), (.int 2), (.ref b1)]))
  refine Goes.on (fun t k => XS.iadd X2.here hx rfl (hb hby d5_11) rfl k) ?_
  show Goes p e below QQ (T2.setTop (mkF m 12 #[rv a1, rv a2, iv p1] [(.int (y2 + p1)), (.int 2), (.ref b1)]))
  obtain ⟨cl4, Ar4, q4, S4, N4z, H4, G4⟩ := id V_b1
  have hin4 := inb_of (j := (2 : Int32)) S4 ⟨by decide, by decide⟩
  obtain ⟨T5, h5, X5, e5, W5, st5⟩ := stI X2 hx hZ e2 Ar4 (j := (2 : Int32)) hin4 (g := (mkF m 12 #[rv a1, rv a2, iv p1] [(.int (y2 + p1)), (.int 2), (.ref b1)])) rfl rfl (hb hby d5_12)
  have F_6 := F_counts_a1.other W5 (Or.inl ne_a1_b1)
  have E_7 := E_a2.wr W5
  have F_8 := F_ordinal_a2.other W5 (Or.inl ne_a2_b1)
  have K5 := K0.wr W5 (Or.inl (List.mem_of_getElem? (i := 0) rfl))
  have N5 := Fr.snoc X5 N2 g_b1
  have V_9 := (Arv.set Ar4 q4 S4 N4z H4 G4 rfl W5 2 rfl (Nat.le_of_ble_eq_true rfl) : Arv Z h5 b1 kb .int (3 : Int32) [(.int y0), (.int y1), (.int (y2 + p1))] (.int 0))
  refine Goes.on (fun t k => st5 t k) ?_
  show Goes p e below QQ (T5.setTop (mkF m 13 #[rv a1, rv a2, iv p1] []))
  exact Goes.rV X5 hx hret hlk (hb hby d5_13) hQQ (by rw [e5]; exact ⟨rfl, N5, K5, V_9⟩) (by decide) (by decide)
theorem d4_0 : decode prog_35_method_3_code 0 = .ok (.iconst 0, 1) := by decide +kernel
theorem d4_1 : decode prog_35_method_3_code 1 = .ok (.istore_n 1, 1) := by decide +kernel
theorem d4_2 : decode prog_35_method_3_code 2 = .ok (.aload_n 0, 1) := by decide +kernel
theorem d4_3 : decode prog_35_method_3_code 3 = .ok (.getfield 13, 3) := by decide +kernel
theorem d4_6 : decode prog_35_method_3_code 6 = .ok (.astore_n 2, 1) := by decide +kernel
theorem d4_7 : decode prog_35_method_3_code 7 = .ok (.aload_n 2, 1) := by decide +kernel
theorem d4_8 : decode prog_35_method_3_code 8 = .ok (.arraylength, 1) := by decide +kernel
theorem d4_9 : decode prog_35_method_3_code 9 = .ok (.istore_n 3, 1) := by decide +kernel
theorem d4_10 : decode prog_35_method_3_code 10 = .ok (.iconst 0, 1) := by decide +kernel
theorem d4_11 : decode prog_35_method_3_code 11 = .ok (.istore 4, 2) := by decide +kernel
theorem d4_13 : decode prog_35_method_3_code 13 = .ok (.iload 4, 2) := by decide +kernel
theorem d4_15 : decode prog_35_method_3_code 15 = .ok (.iload_n 3, 1) := by decide +kernel
theorem d4_16 : decode prog_35_method_3_code 16 = .ok (.if_icmp .ge 20, 3) := by decide +kernel
theorem d4_19 : decode prog_35_method_3_code 19 = .ok (.aload_n 2, 1) := by decide +kernel
theorem d4_20 : decode prog_35_method_3_code 20 = .ok (.iload 4, 2) := by decide +kernel
theorem d4_22 : decode prog_35_method_3_code 22 = .ok (.iaload, 1) := by decide +kernel
theorem d4_23 : decode prog_35_method_3_code 23 = .ok (.istore 5, 2) := by decide +kernel
theorem d4_25 : decode prog_35_method_3_code 25 = .ok (.iload_n 1, 1) := by decide +kernel
theorem d4_26 : decode prog_35_method_3_code 26 = .ok (.iload 5, 2) := by decide +kernel
theorem d4_28 : decode prog_35_method_3_code 28 = .ok (.iadd, 1) := by decide +kernel
theorem d4_29 : decode prog_35_method_3_code 29 = .ok (.istore_n 1, 1) := by decide +kernel
theorem d4_30 : decode prog_35_method_3_code 30 = .ok (.iinc 4 1, 3) := by decide +kernel
theorem d4_33 : decode prog_35_method_3_code 33 = .ok (.goto (-20), 3) := by decide +kernel
theorem d4_36 : decode prog_35_method_3_code 36 = .ok (.iload_n 1, 1) := by decide +kernel
theorem d4_37 : decode prog_35_method_3_code 37 = .ok (.ireturn, 1) := by decide +kernel
theorem pn_4 : plainFor (⟨"com/example/sober_links/soberlinks/io/LeftOutItems", "total", "()I"⟩ : MethodName) = true := plainFor_of_name (show plainName "com/example/sober_links/soberlinks/io/LeftOutItems" = true by first | (simp [plainName, overriddenIn]; done) | decide +kernel)
theorem ef_rm5 (m : MethodId) (x0 : Addr) : entryFrame m #[(.ref x0)] 6 = mkF m 0 #[rv x0, .unset, .unset, .unset, .unset, .unset] [] := by first | (simp [entryFrame, mkF, argsToLocals, Value.category]; done) | rfl
def sum3 (y0 : Int32) (y1 : Int32) (y2 : Int32) : Int32 := ((((0 : Int32) + y0) + y1) + y2)
set_option maxRecDepth 65536 in
set_option maxHeartbeats 40000000 in
theorem rm5 (l : Launch) (Z : State) (a0 : Array Value) (hw : ∀ d ∈ tables_1, d.before a0 Z = true) (ws : List Jvm.Cond) (a1 : Addr) (b1 : Addr) (kb : ClassId) (y0 y1 y2 : Int32) (h0 : Heap) (n0 : Nat) (Z0 : n0 ≤ h0.size) (F_counts_a1 : Fld Z h0 a1 "com/example/sober_links/soberlinks/io/LeftOutItems" "counts" "[I" (.ref b1)) (V_b1 : Arv Z h0 b1 kb .int (3 : Int32) [(.int y0), (.int y1), (.int y2)] (.int 0)) :
    MetFree l (⟨"com/example/sober_links/soberlinks/io/LeftOutItems", "total", "()I"⟩ : MethodName) (head1 (Jvm.Cond.code (⟨"com/example/sober_links/soberlinks/io/LeftOutItems", "total", "()I"⟩ : MethodName) prog_35_method_3_code 6 (some .int) :: ws) ({ frames := 0, cells := 0, slots := 0, locals := 0 } : Room)) (fun a U => a = #[(.ref a1)] ∧ Z.Warmed39 U.vm ∧ U.heap = h0) (fun _ _ _ _ _ => True) (fun _ U o U' => ∃ v L, o = .returned v ∧ QP (.int (sum3 y0 y1 y2)) h0 n0 v U'.heap L ∧ FrameEnd U o U' L ({ frames := 0, cells := 0, slots := 0, locals := 0 } : Room).cells ({ frames := 0, cells := 0, slots := 0, locals := 0 } : Room).slots) := by
  refine own_enter pn_4 ?_
  intro p e s m below meth c s₁ QQ hQQ hx hby hml hown hnm hret hlk hZ X0 e0
  have hown : s.vm.findClass "com/example/sober_links/soberlinks/io/LeftOutItems" = some m.cls := hown
  have hml : c.maxLocals = 6 := hml
  have hret : meth.sig.returnType = some .int := hret
  have N0 := Fr.nil n0
  have K0 := Keep.refl h0 []
  refine Goes.cast (ef_rm5 m a1) ?_
  show Goes p e below QQ (s₁.setTop (mkF m 0 #[rv a1, .unset, .unset, .unset, .unset, .unset] []))
  refine Goes.on (fun t k => XS.iconst X0.here hx rfl (hb hby d4_0) k) ?_
  show Goes p e below QQ (s₁.setTop (mkF m 1 #[rv a1, .unset, .unset, .unset, .unset, .unset] [(.int 0)]))
  refine Goes.on (fun t k => XS.istoreN X0.here hx rfl (hb hby d4_1) rfl (l' := #[rv a1, iv 0, .unset, .unset, .unset, .unset]) rfl k) ?_
  show Goes p e below QQ (s₁.setTop (mkF m 2 #[rv a1, iv 0, .unset, .unset, .unset, .unset] []))
  refine Goes.on (fun t k => XS.aloadN X0.here hx rfl (hb hby d4_2) rfl rfl k) ?_
  show Goes p e below QQ (s₁.setTop (mkF m 3 #[rv a1, iv 0, .unset, .unset, .unset, .unset] [(.ref a1)]))
  obtain ⟨T1, X1, e1, st1⟩ := getF X0 hx hZ hown (host := "") (Or.inl (hw _ (List.mem_of_getElem? (i := 30) rfl))) Via.refl e0 F_counts_a1 (g := (mkF m 3 #[rv a1, iv 0, .unset, .unset, .unset, .unset] [(.ref a1)])) rfl rfl (hb hby d4_3)
  refine Goes.on (fun t k => st1 t k) ?_
  show Goes p e below QQ (T1.setTop (mkF m 6 #[rv a1, iv 0, .unset, .unset, .unset, .unset] [(.ref b1)]))
  refine Goes.on (fun t k => XS.astoreN X1.here hx rfl (hb hby d4_6) rfl rfl (l' := #[rv a1, iv 0, rv b1, .unset, .unset, .unset]) rfl k) ?_
  show Goes p e below QQ (T1.setTop (mkF m 7 #[rv a1, iv 0, rv b1, .unset, .unset, .unset] []))
  refine Goes.on (fun t k => XS.aloadN X1.here hx rfl (hb hby d4_7) rfl rfl k) ?_
  show Goes p e below QQ (T1.setTop (mkF m 8 #[rv a1, iv 0, rv b1, .unset, .unset, .unset] [(.ref b1)]))
  obtain ⟨cl2, Ar2, q2, S2, N2z, H2, G2⟩ := id V_b1
  refine Goes.on (fun t k => X1.arraylength hx (by rw [e1]; exact Ar2.1) (State.isArrayOf_alike hZ.alike Ar2.2.1) (g := (mkF m 8 #[rv a1, iv 0, rv b1, .unset, .unset, .unset] [(.ref b1)])) rfl rfl (hb hby d4_8) t k) ?_
  rw [len_of S2 N2z]
  show Goes p e below QQ (T1.setTop (mkF m 9 #[rv a1, iv 0, rv b1, .unset, .unset, .unset] [(.int 3)]))
  refine Goes.on (fun t k => XS.istoreN X1.here hx rfl (hb hby d4_9) rfl (l' := #[rv a1, iv 0, rv b1, iv 3, .unset, .unset]) rfl k) ?_
  show Goes p e below QQ (T1.setTop (mkF m 10 #[rv a1, iv 0, rv b1, iv 3, .unset, .unset] []))
  refine Goes.on (fun t k => XS.iconst X1.here hx rfl (hb hby d4_10) k) ?_
  show Goes p e below QQ (T1.setTop (mkF m 11 #[rv a1, iv 0, rv b1, iv 3, .unset, .unset] [(.int 0)]))
  refine Goes.on (fun t k => XS.istore X1.here hx rfl (hb hby d4_11) rfl (l' := #[rv a1, iv 0, rv b1, iv 3, iv 0, .unset]) rfl k) ?_
  show Goes p e below QQ (T1.setTop (mkF m 13 #[rv a1, iv 0, rv b1, iv 3, iv 0, .unset] []))
  refine Goes.on (fun t k => XS.iload X1.here hx rfl (hb hby d4_13) rfl k) ?_
  show Goes p e below QQ (T1.setTop (mkF m 15 #[rv a1, iv 0, rv b1, iv 3, iv 0, .unset] [(.int 0)]))
  refine Goes.on (fun t k => XS.iloadN X1.here hx rfl (hb hby d4_15) rfl k) ?_
  show Goes p e below QQ (T1.setTop (mkF m 16 #[rv a1, iv 0, rv b1, iv 3, iv 0, .unset] [(.int 3), (.int 0)]))
  refine Goes.on (fun t k => XS.icmpNo X1.here hx rfl (hb hby d4_16) rfl (tlt (by decide)).2.1 k) ?_
  show Goes p e below QQ (T1.setTop (mkF m 19 #[rv a1, iv 0, rv b1, iv 3, iv 0, .unset] []))
  refine Goes.on (fun t k => XS.aloadN X1.here hx rfl (hb hby d4_19) rfl rfl k) ?_
  show Goes p e below QQ (T1.setTop (mkF m 20 #[rv a1, iv 0, rv b1, iv 3, iv 0, .unset] [(.ref b1)]))
  refine Goes.on (fun t k => XS.iload X1.here hx rfl (hb hby d4_20) rfl k) ?_
  show Goes p e below QQ (T1.setTop (mkF m 22 #[rv a1, iv 0, rv b1, iv 3, iv 0, .unset] [(.int 0), (.ref b1)]))
  obtain ⟨cl3, Ar3, q3, S3, N3z, H3, G3⟩ := id V_b1
  have hin3 := inb_of (j := (0 : Int32)) S3 ⟨by decide, by decide⟩
  have hat3 := Has.at (v := (.int y0)) H3 hin3 rfl
  refine Goes.on (fun t k => X1.iaload hx (j := (0 : Int32)) (v := (.int y0)) (by rw [e1]; exact Ar3.1) (State.isArrayOf_alike hZ.alike Ar3.2.1) Ar3.2.2 hin3 hat3 (g := (mkF m 22 #[rv a1, iv 0, rv b1, iv 3, iv 0, .unset] [(.int 0), (.ref b1)])) rfl rfl (hb hby d4_22) t k) ?_
  show Goes p e below QQ (T1.setTop (mkF m 23 #[rv a1, iv 0, rv b1, iv 3, iv 0, .unset] [(.int y0)]))
  refine Goes.on (fun t k => XS.istore X1.here hx rfl (hb hby d4_23) rfl (l' := #[rv a1, iv 0, rv b1, iv 3, iv 0, iv y0]) rfl k) ?_
  show Goes p e below QQ (T1.setTop (mkF m 25 #[rv a1, iv 0, rv b1, iv 3, iv 0, iv y0] []))
  refine Goes.on (fun t k => XS.iloadN X1.here hx rfl (hb hby d4_25) rfl k) ?_
  show Goes p e below QQ (T1.setTop (mkF m 26 #[rv a1, iv 0, rv b1, iv 3, iv 0, iv y0] [(.int 0)]))
  refine Goes.on (fun t k => XS.iload X1.here hx rfl (hb hby d4_26) rfl k) ?_
  show Goes p e below QQ (T1.setTop (mkF m 28 #[rv a1, iv 0, rv b1, iv 3, iv 0, iv y0] [(.int y0), (.int 0)]))
  refine Goes.on (fun t k => XS.iadd X1.here hx rfl (hb hby d4_28) rfl k) ?_
  show Goes p e below QQ (T1.setTop (mkF m 29 #[rv a1, iv 0, rv b1, iv 3, iv 0, iv y0] [(.int ((0 : Int32) + y0))]))
  refine Goes.on (fun t k => XS.istoreN X1.here hx rfl (hb hby d4_29) rfl (l' := #[rv a1, iv ((0 : Int32) + y0), rv b1, iv 3, iv 0, iv y0]) rfl k) ?_
  show Goes p e below QQ (T1.setTop (mkF m 30 #[rv a1, iv ((0 : Int32) + y0), rv b1, iv 3, iv 0, iv y0] []))
  refine Goes.on (fun t k => XS.iinc X1.here hx rfl (hb hby d4_30) rfl (l' := #[rv a1, iv ((0 : Int32) + y0), rv b1, iv 3, iv ((0 : Int32) + (1 : Int32)), iv y0]) rfl k) ?_
  show Goes p e below QQ (T1.setTop (mkF m 33 #[rv a1, iv ((0 : Int32) + y0), rv b1, iv 3, iv ((0 : Int32) + (1 : Int32)), iv y0] []))
  rw [(by decide : ((0 : Int32) + (1 : Int32)) = (1 : Int32))]
  show Goes p e below QQ (T1.setTop (mkF m 33 #[rv a1, iv ((0 : Int32) + y0), rv b1, iv 3, iv 1, iv y0] []))
  refine Goes.on (fun t k => XS.goto X1.here hx rfl (pc0 := 33) (pc' := 13) rfl (hb hby d4_33) (by decide) (by decide) k) ?_
  show Goes p e below QQ (T1.setTop (mkF m 13 #[rv a1, iv ((0 : Int32) + y0), rv b1, iv 3, iv 1, iv y0] []))
  refine Goes.on (fun t k => XS.iload X1.here hx rfl (hb hby d4_13) rfl k) ?_
  show Goes p e below QQ (T1.setTop (mkF m 15 #[rv a1, iv ((0 : Int32) + y0), rv b1, iv 3, iv 1, iv y0] [(.int 1)]))
  refine Goes.on (fun t k => XS.iloadN X1.here hx rfl (hb hby d4_15) rfl k) ?_
  show Goes p e below QQ (T1.setTop (mkF m 16 #[rv a1, iv ((0 : Int32) + y0), rv b1, iv 3, iv 1, iv y0] [(.int 3), (.int 1)]))
  refine Goes.on (fun t k => XS.icmpNo X1.here hx rfl (hb hby d4_16) rfl (tlt (by decide)).2.1 k) ?_
  show Goes p e below QQ (T1.setTop (mkF m 19 #[rv a1, iv ((0 : Int32) + y0), rv b1, iv 3, iv 1, iv y0] []))
  refine Goes.on (fun t k => XS.aloadN X1.here hx rfl (hb hby d4_19) rfl rfl k) ?_
  show Goes p e below QQ (T1.setTop (mkF m 20 #[rv a1, iv ((0 : Int32) + y0), rv b1, iv 3, iv 1, iv y0] [(.ref b1)]))
  refine Goes.on (fun t k => XS.iload X1.here hx rfl (hb hby d4_20) rfl k) ?_
  show Goes p e below QQ (T1.setTop (mkF m 22 #[rv a1, iv ((0 : Int32) + y0), rv b1, iv 3, iv 1, iv y0] [(.int 1), (.ref b1)]))
  obtain ⟨cl4, Ar4, q4, S4, N4z, H4, G4⟩ := id V_b1
  have hin4 := inb_of (j := (1 : Int32)) S4 ⟨by decide, by decide⟩
  have hat4 := Has.at (v := (.int y1)) H4 hin4 rfl
  refine Goes.on (fun t k => X1.iaload hx (j := (1 : Int32)) (v := (.int y1)) (by rw [e1]; exact Ar4.1) (State.isArrayOf_alike hZ.alike Ar4.2.1) Ar4.2.2 hin4 hat4 (g := (mkF m 22 #[rv a1, iv ((0 : Int32) + y0), rv b1, iv 3, iv 1, iv y0] [(.int 1), (.ref b1)])) rfl rfl (hb hby d4_22) t k) ?_
  show Goes p e below QQ (T1.setTop (mkF m 23 #[rv a1, iv ((0 : Int32) + y0), rv b1, iv 3, iv 1, iv y0] [(.int y1)]))
  refine Goes.on (fun t k => XS.istore X1.here hx rfl (hb hby d4_23) rfl (l' := #[rv a1, iv ((0 : Int32) + y0), rv b1, iv 3, iv 1, iv y1]) rfl k) ?_
  show Goes p e below QQ (T1.setTop (mkF m 25 #[rv a1, iv ((0 : Int32) + y0), rv b1, iv 3, iv 1, iv y1] []))
  refine Goes.on (fun t k => XS.iloadN X1.here hx rfl (hb hby d4_25) rfl k) ?_
  show Goes p e below QQ (T1.setTop (mkF m 26 #[rv a1, iv ((0 : Int32) + y0), rv b1, iv 3, iv 1, iv y1] [(.int ((0 : Int32) + y0))]))
  refine Goes.on (fun t k => XS.iload X1.here hx rfl (hb hby d4_26) rfl k) ?_
  show Goes p e below QQ (T1.setTop (mkF m 28 #[rv a1, iv ((0 : Int32) + y0), rv b1, iv 3, iv 1, iv y1] [(.int y1), (.int ((0 : Int32) + y0))]))
  refine Goes.on (fun t k => XS.iadd X1.here hx rfl (hb hby d4_28) rfl k) ?_
  show Goes p e below QQ (T1.setTop (mkF m 29 #[rv a1, iv ((0 : Int32) + y0), rv b1, iv 3, iv 1, iv y1] [(.int (((0 : Int32) + y0) + y1))]))
  refine Goes.on (fun t k => XS.istoreN X1.here hx rfl (hb hby d4_29) rfl (l' := #[rv a1, iv (((0 : Int32) + y0) + y1), rv b1, iv 3, iv 1, iv y1]) rfl k) ?_
  show Goes p e below QQ (T1.setTop (mkF m 30 #[rv a1, iv (((0 : Int32) + y0) + y1), rv b1, iv 3, iv 1, iv y1] []))
  refine Goes.on (fun t k => XS.iinc X1.here hx rfl (hb hby d4_30) rfl (l' := #[rv a1, iv (((0 : Int32) + y0) + y1), rv b1, iv 3, iv ((1 : Int32) + (1 : Int32)), iv y1]) rfl k) ?_
  show Goes p e below QQ (T1.setTop (mkF m 33 #[rv a1, iv (((0 : Int32) + y0) + y1), rv b1, iv 3, iv ((1 : Int32) + (1 : Int32)), iv y1] []))
  rw [(by decide : ((1 : Int32) + (1 : Int32)) = (2 : Int32))]
  show Goes p e below QQ (T1.setTop (mkF m 33 #[rv a1, iv (((0 : Int32) + y0) + y1), rv b1, iv 3, iv 2, iv y1] []))
  refine Goes.on (fun t k => XS.goto X1.here hx rfl (pc0 := 33) (pc' := 13) rfl (hb hby d4_33) (by decide) (by decide) k) ?_
  show Goes p e below QQ (T1.setTop (mkF m 13 #[rv a1, iv (((0 : Int32) + y0) + y1), rv b1, iv 3, iv 2, iv y1] []))
  refine Goes.on (fun t k => XS.iload X1.here hx rfl (hb hby d4_13) rfl k) ?_
  show Goes p e below QQ (T1.setTop (mkF m 15 #[rv a1, iv (((0 : Int32) + y0) + y1), rv b1, iv 3, iv 2, iv y1] [(.int 2)]))
  refine Goes.on (fun t k => XS.iloadN X1.here hx rfl (hb hby d4_15) rfl k) ?_
  show Goes p e below QQ (T1.setTop (mkF m 16 #[rv a1, iv (((0 : Int32) + y0) + y1), rv b1, iv 3, iv 2, iv y1] [(.int 3), (.int 2)]))
  refine Goes.on (fun t k => XS.icmpNo X1.here hx rfl (hb hby d4_16) rfl (tlt (by decide)).2.1 k) ?_
  show Goes p e below QQ (T1.setTop (mkF m 19 #[rv a1, iv (((0 : Int32) + y0) + y1), rv b1, iv 3, iv 2, iv y1] []))
  refine Goes.on (fun t k => XS.aloadN X1.here hx rfl (hb hby d4_19) rfl rfl k) ?_
  show Goes p e below QQ (T1.setTop (mkF m 20 #[rv a1, iv (((0 : Int32) + y0) + y1), rv b1, iv 3, iv 2, iv y1] [(.ref b1)]))
  refine Goes.on (fun t k => XS.iload X1.here hx rfl (hb hby d4_20) rfl k) ?_
  show Goes p e below QQ (T1.setTop (mkF m 22 #[rv a1, iv (((0 : Int32) + y0) + y1), rv b1, iv 3, iv 2, iv y1] [(.int 2), (.ref b1)]))
  obtain ⟨cl5, Ar5, q5, S5, N5z, H5, G5⟩ := id V_b1
  have hin5 := inb_of (j := (2 : Int32)) S5 ⟨by decide, by decide⟩
  have hat5 := Has.at (v := (.int y2)) H5 hin5 rfl
  refine Goes.on (fun t k => X1.iaload hx (j := (2 : Int32)) (v := (.int y2)) (by rw [e1]; exact Ar5.1) (State.isArrayOf_alike hZ.alike Ar5.2.1) Ar5.2.2 hin5 hat5 (g := (mkF m 22 #[rv a1, iv (((0 : Int32) + y0) + y1), rv b1, iv 3, iv 2, iv y1] [(.int 2), (.ref b1)])) rfl rfl (hb hby d4_22) t k) ?_
  show Goes p e below QQ (T1.setTop (mkF m 23 #[rv a1, iv (((0 : Int32) + y0) + y1), rv b1, iv 3, iv 2, iv y1] [(.int y2)]))
  refine Goes.on (fun t k => XS.istore X1.here hx rfl (hb hby d4_23) rfl (l' := #[rv a1, iv (((0 : Int32) + y0) + y1), rv b1, iv 3, iv 2, iv y2]) rfl k) ?_
  show Goes p e below QQ (T1.setTop (mkF m 25 #[rv a1, iv (((0 : Int32) + y0) + y1), rv b1, iv 3, iv 2, iv y2] []))
  refine Goes.on (fun t k => XS.iloadN X1.here hx rfl (hb hby d4_25) rfl k) ?_
  show Goes p e below QQ (T1.setTop (mkF m 26 #[rv a1, iv (((0 : Int32) + y0) + y1), rv b1, iv 3, iv 2, iv y2] [(.int (((0 : Int32) + y0) + y1))]))
  refine Goes.on (fun t k => XS.iload X1.here hx rfl (hb hby d4_26) rfl k) ?_
  show Goes p e below QQ (T1.setTop (mkF m 28 #[rv a1, iv (((0 : Int32) + y0) + y1), rv b1, iv 3, iv 2, iv y2] [(.int y2), (.int (((0 : Int32) + y0) + y1))]))
  refine Goes.on (fun t k => XS.iadd X1.here hx rfl (hb hby d4_28) rfl k) ?_
  show Goes p e below QQ (T1.setTop (mkF m 29 #[rv a1, iv (((0 : Int32) + y0) + y1), rv b1, iv 3, iv 2, iv y2] [(.int ((((0 : Int32) + y0) + y1) + y2))]))
  refine Goes.on (fun t k => XS.istoreN X1.here hx rfl (hb hby d4_29) rfl (l' := #[rv a1, iv ((((0 : Int32) + y0) + y1) + y2), rv b1, iv 3, iv 2, iv y2]) rfl k) ?_
  show Goes p e below QQ (T1.setTop (mkF m 30 #[rv a1, iv ((((0 : Int32) + y0) + y1) + y2), rv b1, iv 3, iv 2, iv y2] []))
  refine Goes.on (fun t k => XS.iinc X1.here hx rfl (hb hby d4_30) rfl (l' := #[rv a1, iv ((((0 : Int32) + y0) + y1) + y2), rv b1, iv 3, iv ((2 : Int32) + (1 : Int32)), iv y2]) rfl k) ?_
  show Goes p e below QQ (T1.setTop (mkF m 33 #[rv a1, iv ((((0 : Int32) + y0) + y1) + y2), rv b1, iv 3, iv ((2 : Int32) + (1 : Int32)), iv y2] []))
  rw [(by decide : ((2 : Int32) + (1 : Int32)) = (3 : Int32))]
  show Goes p e below QQ (T1.setTop (mkF m 33 #[rv a1, iv ((((0 : Int32) + y0) + y1) + y2), rv b1, iv 3, iv 3, iv y2] []))
  refine Goes.on (fun t k => XS.goto X1.here hx rfl (pc0 := 33) (pc' := 13) rfl (hb hby d4_33) (by decide) (by decide) k) ?_
  show Goes p e below QQ (T1.setTop (mkF m 13 #[rv a1, iv ((((0 : Int32) + y0) + y1) + y2), rv b1, iv 3, iv 3, iv y2] []))
  refine Goes.on (fun t k => XS.iload X1.here hx rfl (hb hby d4_13) rfl k) ?_
  show Goes p e below QQ (T1.setTop (mkF m 15 #[rv a1, iv ((((0 : Int32) + y0) + y1) + y2), rv b1, iv 3, iv 3, iv y2] [(.int 3)]))
  refine Goes.on (fun t k => XS.iloadN X1.here hx rfl (hb hby d4_15) rfl k) ?_
  show Goes p e below QQ (T1.setTop (mkF m 16 #[rv a1, iv ((((0 : Int32) + y0) + y1) + y2), rv b1, iv 3, iv 3, iv y2] [(.int 3), (.int 3)]))
  refine Goes.on (fun t k => XS.icmpYes X1.here hx rfl (pc0 := 16) (pc' := 36) rfl (hb hby d4_16) rfl (flt (by decide)).2.1 (by decide) (by decide) k) ?_
  show Goes p e below QQ (T1.setTop (mkF m 36 #[rv a1, iv ((((0 : Int32) + y0) + y1) + y2), rv b1, iv 3, iv 3, iv y2] []))
  refine Goes.on (fun t k => XS.iloadN X1.here hx rfl (hb hby d4_36) rfl k) ?_
  show Goes p e below QQ (T1.setTop (mkF m 37 #[rv a1, iv ((((0 : Int32) + y0) + y1) + y2), rv b1, iv 3, iv 3, iv y2] [(.int ((((0 : Int32) + y0) + y1) + y2))]))
  exact Goes.rI X1 hx hret hlk (hb hby d4_37) hQQ ⟨congrArg (fun z => some (Value.int z)) (rfl : (sum3 y0 y1 y2) = ((((0 : Int32) + y0) + y1) + y2)).symm, N0, e1⟩ (by decide) (by decide)
theorem d7_0 : decode method_2_code 0 = .ok (.iload_n 0, 1) := by decide +kernel
theorem d7_1 : decode method_2_code 1 = .ok (.ldc 7, 2) := by decide +kernel
theorem d7_3 : decode method_2_code 3 = .ok (.iand, 1) := by decide +kernel
theorem d7_4 : decode method_2_code 4 = .ok (.iconst 3, 1) := by decide +kernel
theorem d7_5 : decode method_2_code 5 = .ok (.irem, 1) := by decide +kernel
theorem d7_6 : decode method_2_code 6 = .ok (.istore_n 1, 1) := by decide +kernel
theorem d7_7 : decode method_2_code 7 = .ok (.iload_n 1, 1) := by decide +kernel
theorem d7_8 : decode method_2_code 8 = .ok (.ifCond .ne 7, 3) := by decide +kernel
theorem d7_11 : decode method_2_code 11 = .ok (.getstatic 8, 3) := by decide +kernel
theorem d7_14 : decode method_2_code 14 = .ok (.areturn, 1) := by decide +kernel
theorem d7_15 : decode method_2_code 15 = .ok (.iload_n 1, 1) := by decide +kernel
theorem d7_16 : decode method_2_code 16 = .ok (.iconst 1, 1) := by decide +kernel
theorem d7_17 : decode method_2_code 17 = .ok (.if_icmp .ne 7, 3) := by decide +kernel
theorem d7_20 : decode method_2_code 20 = .ok (.getstatic 14, 3) := by decide +kernel
theorem d7_23 : decode method_2_code 23 = .ok (.areturn, 1) := by decide +kernel
theorem d7_24 : decode method_2_code 24 = .ok (.getstatic 17, 3) := by decide +kernel
theorem d7_27 : decode method_2_code 27 = .ok (.areturn, 1) := by decide +kernel
theorem pn_7 : plainFor (⟨"com/example/sober_links/soberlinks/io/LeftOutItemsTotalPinLaw", "pick", "(I)Lcom/example/sober_links/soberlinks/io/LeftOutItems$Reason;"⟩ : MethodName) = true := plainFor_of_name (show plainName "com/example/sober_links/soberlinks/io/LeftOutItemsTotalPinLaw" = true by first | (simp [plainName, overriddenIn]; done) | decide +kernel)
theorem ef_rm6 (m : MethodId) (x0 : Int32) : entryFrame m #[(.int x0)] 2 = mkF m 0 #[iv x0, .unset] [] := by first | (simp [entryFrame, mkF, argsToLocals, Value.category]; done) | rfl
def pickA (p1 : Int32) (x0 : Addr) (x1 : Addr) (x2 : Addr) : Addr := (if ((p1 &&& (2147483647 : Int32)) % (3 : Int32)) = (0 : Int32) then x0 else (if ((p1 &&& (2147483647 : Int32)) % (3 : Int32)) = (1 : Int32) then x1 else x2))
set_option maxRecDepth 65536 in
set_option maxHeartbeats 40000000 in
theorem rm6 (l : Launch) (Z : State) (a0 : Array Value) (hw : ∀ d ∈ tables_1, d.before a0 Z = true) (ws : List Jvm.Cond) (p1 : Int32) (x0 x1 x2 : Addr) (h0 : Heap) (n0 : Nat) (Z0 : n0 ≤ h0.size) (S_RANK_ABOVE_ONE : Sta Z Z.heap "com/example/sober_links/soberlinks/io/LeftOutItems$Reason" "RANK_ABOVE_ONE" "Lcom/example/sober_links/soberlinks/io/LeftOutItems$Reason;" (.ref x0)) (S_WITHOUT_CROSSLINK : Sta Z Z.heap "com/example/sober_links/soberlinks/io/LeftOutItems$Reason" "WITHOUT_CROSSLINK" "Lcom/example/sober_links/soberlinks/io/LeftOutItems$Reason;" (.ref x1)) (S_NOT_DONOR_AND_ACCEPTOR : Sta Z Z.heap "com/example/sober_links/soberlinks/io/LeftOutItems$Reason" "NOT_DONOR_AND_ACCEPTOR" "Lcom/example/sober_links/soberlinks/io/LeftOutItems$Reason;" (.ref x2)) (O_0 : Old Z n0 h0) :
    MetFree l (⟨"com/example/sober_links/soberlinks/io/LeftOutItemsTotalPinLaw", "pick", "(I)Lcom/example/sober_links/soberlinks/io/LeftOutItems$Reason;"⟩ : MethodName) (head1 (Jvm.Cond.code (⟨"com/example/sober_links/soberlinks/io/LeftOutItemsTotalPinLaw", "pick", "(I)Lcom/example/sober_links/soberlinks/io/LeftOutItems$Reason;"⟩ : MethodName) method_2_code 2 (some (.object "com/example/sober_links/soberlinks/io/LeftOutItems$Reason")) :: ws) ({ frames := 0, cells := 0, slots := 0, locals := 0 } : Room)) (fun a U => a = #[(.int p1)] ∧ Z.Warmed39 U.vm ∧ U.heap = h0) (fun _ _ _ _ _ => True) (fun _ U o U' => ∃ v L, o = .returned v ∧ QP (.ref (pickA p1 x0 x1 x2)) h0 n0 v U'.heap L ∧ FrameEnd U o U' L ({ frames := 0, cells := 0, slots := 0, locals := 0 } : Room).cells ({ frames := 0, cells := 0, slots := 0, locals := 0 } : Room).slots) := by
  refine own_enter pn_7 ?_
  intro p e s m below meth c s₁ QQ hQQ hx hby hml hown hnm hret hlk hZ X0 e0
  have hown : s.vm.findClass "com/example/sober_links/soberlinks/io/LeftOutItemsTotalPinLaw" = some m.cls := hown
  have hml : c.maxLocals = 2 := hml
  have hret : meth.sig.returnType = some (.object "com/example/sober_links/soberlinks/io/LeftOutItems$Reason") := hret
  have N0 := Fr.nil n0
  have K0 := Keep.refl h0 []
  refine Goes.cast (ef_rm6 m p1) ?_
  show Goes p e below QQ (s₁.setTop (mkF m 0 #[iv p1, .unset] []))
  refine Goes.on (fun t k => XS.iloadN X0.here hx rfl (hb hby d7_0) rfl k) ?_
  show Goes p e below QQ (s₁.setTop (mkF m 1 #[iv p1, .unset] [(.int p1)]))
  refine Goes.on (fun t k => X0.ldcInt hx hown (mvT hZ (hw _ (List.mem_of_getElem? (i := 0) rfl))) (g := (mkF m 1 #[iv p1, .unset] [(.int p1)])) rfl (hb hby d7_1) t k) ?_
  show Goes p e below QQ (s₁.setTop (mkF m 3 #[iv p1, .unset] [(.int 2147483647), (.int p1)]))
  refine Goes.on (fun t k => XS.iand X0.here hx rfl (hb hby d7_3) rfl k) ?_
  show Goes p e below QQ (s₁.setTop (mkF m 4 #[iv p1, .unset] [(.int (p1 &&& (2147483647 : Int32)))]))
  refine Goes.on (fun t k => XS.iconst X0.here hx rfl (hb hby d7_4) k) ?_
  show Goes p e below QQ (s₁.setTop (mkF m 5 #[iv p1, .unset] [(.int 3), (.int (p1 &&& (2147483647 : Int32)))]))
  refine Goes.on (fun t k => iremM X0 hx rfl (hb hby d7_5) rfl (by decide) k) ?_
  show Goes p e below QQ (s₁.setTop (mkF m 6 #[iv p1, .unset] [(.int ((p1 &&& (2147483647 : Int32)) % (3 : Int32)))]))
  refine Goes.on (fun t k => XS.istoreN X0.here hx rfl (hb hby d7_6) rfl (l' := #[iv p1, iv ((p1 &&& (2147483647 : Int32)) % (3 : Int32))]) rfl k) ?_
  show Goes p e below QQ (s₁.setTop (mkF m 7 #[iv p1, iv ((p1 &&& (2147483647 : Int32)) % (3 : Int32))] []))
  refine Goes.on (fun t k => XS.iloadN X0.here hx rfl (hb hby d7_7) rfl k) ?_
  show Goes p e below QQ (s₁.setTop (mkF m 8 #[iv p1, iv ((p1 &&& (2147483647 : Int32)) % (3 : Int32))] [(.int ((p1 &&& (2147483647 : Int32)) % (3 : Int32)))]))
  by_cases hb1 : ((p1 &&& (2147483647 : Int32)) % (3 : Int32)) = (0 : Int32)
  · refine Goes.on (fun t k => XS.ifNo X0.here hx rfl (hb hby d7_8) rfl ((if0 _ _).trans (teq hb1).2) k) ?_
    show Goes p e below QQ (s₁.setTop (mkF m 11 #[iv p1, iv ((p1 &&& (2147483647 : Int32)) % (3 : Int32))] []))
    obtain ⟨T2, X2, e2, st2⟩ := getS2 X0 hx hZ hown (host := "") (Or.inl (hw _ (List.mem_of_getElem? (i := 37) rfl))) Via.refl e0 (S_RANK_ABOVE_ONE.ext O_0.2) (g := (mkF m 11 #[iv p1, iv ((p1 &&& (2147483647 : Int32)) % (3 : Int32))] [])) rfl (hb hby d7_11)
    refine Goes.on (fun t k => st2 t k) ?_
    show Goes p e below QQ (T2.setTop (mkF m 14 #[iv p1, iv ((p1 &&& (2147483647 : Int32)) % (3 : Int32))] [(.ref x0)]))
    exact Goes.rA X2 hx hret rfl rfl hlk (hb hby d7_14) hQQ ⟨congrArg (fun z => some (Value.ref z)) (((if_pos hb1).trans rfl) : (pickA p1 x0 x1 x2) = x0).symm, N0, e2⟩ (by decide) (by decide)
  · refine Goes.on (fun t k => XS.ifYes X0.here hx rfl (pc0 := 8) (pc' := 15) rfl (hb hby d7_8) rfl ((if0 _ _).trans (feq hb1).2) (by decide) (by decide) k) ?_
    show Goes p e below QQ (s₁.setTop (mkF m 15 #[iv p1, iv ((p1 &&& (2147483647 : Int32)) % (3 : Int32))] []))
    refine Goes.on (fun t k => XS.iloadN X0.here hx rfl (hb hby d7_15) rfl k) ?_
    show Goes p e below QQ (s₁.setTop (mkF m 16 #[iv p1, iv ((p1 &&& (2147483647 : Int32)) % (3 : Int32))] [(.int ((p1 &&& (2147483647 : Int32)) % (3 : Int32)))]))
    refine Goes.on (fun t k => XS.iconst X0.here hx rfl (hb hby d7_16) k) ?_
    show Goes p e below QQ (s₁.setTop (mkF m 17 #[iv p1, iv ((p1 &&& (2147483647 : Int32)) % (3 : Int32))] [(.int 1), (.int ((p1 &&& (2147483647 : Int32)) % (3 : Int32)))]))
    by_cases hb3 : ((p1 &&& (2147483647 : Int32)) % (3 : Int32)) = (1 : Int32)
    · refine Goes.on (fun t k => XS.icmpNo X0.here hx rfl (hb hby d7_17) rfl (teq hb3).2 k) ?_
      show Goes p e below QQ (s₁.setTop (mkF m 20 #[iv p1, iv ((p1 &&& (2147483647 : Int32)) % (3 : Int32))] []))
      obtain ⟨T4, X4, e4, st4⟩ := getS2 X0 hx hZ hown (host := "") (Or.inl (hw _ (List.mem_of_getElem? (i := 52) rfl))) Via.refl e0 (S_WITHOUT_CROSSLINK.ext O_0.2) (g := (mkF m 20 #[iv p1, iv ((p1 &&& (2147483647 : Int32)) % (3 : Int32))] [])) rfl (hb hby d7_20)
      refine Goes.on (fun t k => st4 t k) ?_
      show Goes p e below QQ (T4.setTop (mkF m 23 #[iv p1, iv ((p1 &&& (2147483647 : Int32)) % (3 : Int32))] [(.ref x1)]))
      exact Goes.rA X4 hx hret rfl rfl hlk (hb hby d7_23) hQQ ⟨congrArg (fun z => some (Value.ref z)) (((if_neg hb1).trans ((if_pos hb3).trans rfl)) : (pickA p1 x0 x1 x2) = x1).symm, N0, e4⟩ (by decide) (by decide)
    · refine Goes.on (fun t k => XS.icmpYes X0.here hx rfl (pc0 := 17) (pc' := 24) rfl (hb hby d7_17) rfl (feq hb3).2 (by decide) (by decide) k) ?_
      show Goes p e below QQ (s₁.setTop (mkF m 24 #[iv p1, iv ((p1 &&& (2147483647 : Int32)) % (3 : Int32))] []))
      obtain ⟨T5, X5, e5, st5⟩ := getS2 X0 hx hZ hown (host := "") (Or.inl (hw _ (List.mem_of_getElem? (i := 53) rfl))) Via.refl e0 (S_NOT_DONOR_AND_ACCEPTOR.ext O_0.2) (g := (mkF m 24 #[iv p1, iv ((p1 &&& (2147483647 : Int32)) % (3 : Int32))] [])) rfl (hb hby d7_24)
      refine Goes.on (fun t k => st5 t k) ?_
      show Goes p e below QQ (T5.setTop (mkF m 27 #[iv p1, iv ((p1 &&& (2147483647 : Int32)) % (3 : Int32))] [(.ref x2)]))
      exact Goes.rA X5 hx hret rfl rfl hlk (hb hby d7_27) hQQ ⟨congrArg (fun z => some (Value.ref z)) (((if_neg hb1).trans ((if_neg hb3).trans rfl)) : (pickA p1 x0 x1 x2) = x2).symm, N0, e5⟩ (by decide) (by decide)
theorem pn_0 : plainFor x = true := plainFor_of_name (show plainName "com/example/sober_links/soberlinks/io/LeftOutItemsTotalPinLaw" = true by first | (simp [plainName, overriddenIn]; done) | decide +kernel)
theorem ef_rm0 (m : MethodId) (x0 : Int32) (x1 : Int32) (x2 : Int32) (x3 : Int32) (x4 : Int32) : entryFrame m #[(.int x0), (.int x1), (.int x2), (.int x3), (.int x4)] maxLocals = mkF m 0 #[iv x0, iv x1, iv x2, iv x3, iv x4, .unset, .unset, .unset, .unset, .unset, .unset, .unset] [] := by first | (simp [entryFrame, mkF, argsToLocals, Value.category, maxLocals]; done) | rfl
theorem pd_2 : parseMethodDescriptor "()V" = some ⟨[], none⟩ := by decide +kernel
theorem pd_3 : parseMethodDescriptor "(Lcom/example/sober_links/soberlinks/io/LeftOutItems$Reason;I)V" = some ⟨[(.object "com/example/sober_links/soberlinks/io/LeftOutItems$Reason"), .int], none⟩ := by decide +kernel
theorem pd_4 : parseMethodDescriptor "(I)Lcom/example/sober_links/soberlinks/io/LeftOutItems$Reason;" = some ⟨[.int], some (.object "com/example/sober_links/soberlinks/io/LeftOutItems$Reason")⟩ := by decide +kernel
def lawF (p1 p2 p3 p4 p5 : Int32) : Int32 := (if ((p4 &&& (2147483647 : Int32)) % (3 : Int32)) = (0 : Int32) then (if (sum3 (((0 : Int32) + (p1 &&& (2147483647 : Int32))) + (p5 &&& (2147483647 : Int32))) ((0 : Int32) + (p2 &&& (2147483647 : Int32))) ((0 : Int32) + (p3 &&& (2147483647 : Int32)))) = ((((p1 &&& (2147483647 : Int32)) + (p2 &&& (2147483647 : Int32))) + (p3 &&& (2147483647 : Int32))) + (p5 &&& (2147483647 : Int32))) then (1 : Int32) else (0 : Int32)) else (if ((p4 &&& (2147483647 : Int32)) % (3 : Int32)) = (1 : Int32) then (if (sum3 ((0 : Int32) + (p1 &&& (2147483647 : Int32))) (((0 : Int32) + (p2 &&& (2147483647 : Int32))) + (p5 &&& (2147483647 : Int32))) ((0 : Int32) + (p3 &&& (2147483647 : Int32)))) = ((((p1 &&& (2147483647 : Int32)) + (p2 &&& (2147483647 : Int32))) + (p3 &&& (2147483647 : Int32))) + (p5 &&& (2147483647 : Int32))) then (1 : Int32) else (0 : Int32)) else (if (sum3 ((0 : Int32) + (p1 &&& (2147483647 : Int32))) ((0 : Int32) + (p2 &&& (2147483647 : Int32))) (((0 : Int32) + (p3 &&& (2147483647 : Int32))) + (p5 &&& (2147483647 : Int32)))) = ((((p1 &&& (2147483647 : Int32)) + (p2 &&& (2147483647 : Int32))) + (p3 &&& (2147483647 : Int32))) + (p5 &&& (2147483647 : Int32))) then (1 : Int32) else (0 : Int32))))
theorem lawT (p1 p2 p3 p4 p5 : Int32) : lawF p1 p2 p3 p4 p5 = 1 := by
  unfold lawF sum3
  generalize (p1 &&& (2147483647 : Int32)) = u1
  generalize (p2 &&& (2147483647 : Int32)) = u2
  generalize (p3 &&& (2147483647 : Int32)) = u3
  generalize (p5 &&& (2147483647 : Int32)) = u5
  simp only [Int32.zero_add]
  have e1 : u1 + u5 + u2 + u3 = u1 + u2 + u3 + u5 := by ac_rfl
  have e2 : u1 + (u2 + u5) + u3 = u1 + u2 + u3 + u5 := by ac_rfl
  have e3 : u1 + u2 + (u3 + u5) = u1 + u2 + u3 + u5 := by ac_rfl
  rw [if_pos e1, if_pos e2, if_pos e3, ite_self, ite_self]
set_option maxRecDepth 65536 in
set_option maxHeartbeats 40000000 in
theorem rm0 (l : Launch) (Z : State) (a0 : Array Value) (hw : ∀ d ∈ tables_1, d.before a0 Z = true) (ws : List Jvm.Cond) (p1 p2 p3 p4 p5 : Int32) (x0 x1 x2 xV : Addr) (cv : Cell) (h0 : Heap) (n0 : Nat) (Z0 : n0 ≤ h0.size) (S_RANK_ABOVE_ONE : Sta Z Z.heap "com/example/sober_links/soberlinks/io/LeftOutItems$Reason" "RANK_ABOVE_ONE" "Lcom/example/sober_links/soberlinks/io/LeftOutItems$Reason;" (.ref x0)) (E_x0 : Exa Z h0 x0 "com/example/sober_links/soberlinks/io/LeftOutItems$Reason") (F_ordinal_x0 : Fld Z h0 x0 "java/lang/Enum" "ordinal" "I" (.int 0)) (S_WITHOUT_CROSSLINK : Sta Z Z.heap "com/example/sober_links/soberlinks/io/LeftOutItems$Reason" "WITHOUT_CROSSLINK" "Lcom/example/sober_links/soberlinks/io/LeftOutItems$Reason;" (.ref x1)) (E_x1 : Exa Z h0 x1 "com/example/sober_links/soberlinks/io/LeftOutItems$Reason") (F_ordinal_x1 : Fld Z h0 x1 "java/lang/Enum" "ordinal" "I" (.int 1)) (S_NOT_DONOR_AND_ACCEPTOR : Sta Z Z.heap "com/example/sober_links/soberlinks/io/LeftOutItems$Reason" "NOT_DONOR_AND_ACCEPTOR" "Lcom/example/sober_links/soberlinks/io/LeftOutItems$Reason;" (.ref x2)) (E_x2 : Exa Z h0 x2 "com/example/sober_links/soberlinks/io/LeftOutItems$Reason") (F_ordinal_x2 : Fld Z h0 x2 "java/lang/Enum" "ordinal" "I" (.int 2)) (O_0 : Old Z n0 h0) (S_qVALUES : Sta Z Z.heap "com/example/sober_links/soberlinks/io/LeftOutItems$Reason" "$VALUES" "[Lcom/example/sober_links/soberlinks/io/LeftOutItems$Reason;" (.ref xV)) (A_v : Arr Z Z.heap xV cv (.object "com/example/sober_links/soberlinks/io/LeftOutItems$Reason")) (E_xV : Exa Z h0 xV "[Lcom/example/sober_links/soberlinks/io/LeftOutItems$Reason;") (F_v : FitC Z cv) (sz_v : cv.slots.size = 3) :
    MetFree l x (head1 (Jvm.Cond.code x code maxLocals ret :: ws) room_1) (fun a U => a = #[(.int p1), (.int p2), (.int p3), (.int p4), (.int p5)] ∧ Z.Warmed39 U.vm ∧ U.heap = h0) (fun _ _ _ _ _ => True) (fun _ U o U' => ∃ v L, o = .returned v ∧ QL n0 v U'.heap L ∧ FrameEnd U o U' L 16 128) := by
  refine own_enter pn_0 ?_
  intro p e s m below meth c s₁ QQ hQQ hx hby hml hown hnm hret hlk hZ X0 e0
  have hown : s.vm.findClass "com/example/sober_links/soberlinks/io/LeftOutItemsTotalPinLaw" = some m.cls := hown
  have hml : c.maxLocals = 12 := hml
  have hret : meth.sig.returnType = some .boolean := hret
  have N0 := Fr.nil n0
  have K0 := Keep.refl h0 []
  refine Goes.cast (ef_rm0 m p1 p2 p3 p4 p5) ?_
  show Goes p e below QQ (s₁.setTop (mkF m 0 #[iv p1, iv p2, iv p3, iv p4, iv p5, .unset, .unset, .unset, .unset, .unset, .unset, .unset] []))
  refine Goes.on (fun t k => XS.iloadN X0.here hx rfl (hb hby at_0) rfl k) ?_
  show Goes p e below QQ (s₁.setTop (mkF m 1 #[iv p1, iv p2, iv p3, iv p4, iv p5, .unset, .unset, .unset, .unset, .unset, .unset, .unset] [(.int p1)]))
  refine Goes.on (fun t k => X0.ldcInt hx hown (mvT hZ (hw _ (List.mem_of_getElem? (i := 0) rfl))) (g := (mkF m 1 #[iv p1, iv p2, iv p3, iv p4, iv p5, .unset, .unset, .unset, .unset, .unset, .unset, .unset] [(.int p1)])) rfl (hb hby at_1) t k) ?_
  show Goes p e below QQ (s₁.setTop (mkF m 3 #[iv p1, iv p2, iv p3, iv p4, iv p5, .unset, .unset, .unset, .unset, .unset, .unset, .unset] [(.int 2147483647), (.int p1)]))
  refine Goes.on (fun t k => XS.iand X0.here hx rfl (hb hby at_3) rfl k) ?_
  show Goes p e below QQ (s₁.setTop (mkF m 4 #[iv p1, iv p2, iv p3, iv p4, iv p5, .unset, .unset, .unset, .unset, .unset, .unset, .unset] [(.int (p1 &&& (2147483647 : Int32)))]))
  refine Goes.on (fun t k => XS.istore X0.here hx rfl (hb hby at_4) rfl (l' := #[iv p1, iv p2, iv p3, iv p4, iv p5, iv (p1 &&& (2147483647 : Int32)), .unset, .unset, .unset, .unset, .unset, .unset]) rfl k) ?_
  show Goes p e below QQ (s₁.setTop (mkF m 6 #[iv p1, iv p2, iv p3, iv p4, iv p5, iv (p1 &&& (2147483647 : Int32)), .unset, .unset, .unset, .unset, .unset, .unset] []))
  refine Goes.on (fun t k => XS.iloadN X0.here hx rfl (hb hby at_6) rfl k) ?_
  show Goes p e below QQ (s₁.setTop (mkF m 7 #[iv p1, iv p2, iv p3, iv p4, iv p5, iv (p1 &&& (2147483647 : Int32)), .unset, .unset, .unset, .unset, .unset, .unset] [(.int p2)]))
  refine Goes.on (fun t k => X0.ldcInt hx hown (mvT hZ (hw _ (List.mem_of_getElem? (i := 0) rfl))) (g := (mkF m 7 #[iv p1, iv p2, iv p3, iv p4, iv p5, iv (p1 &&& (2147483647 : Int32)), .unset, .unset, .unset, .unset, .unset, .unset] [(.int p2)])) rfl (hb hby at_7) t k) ?_
  show Goes p e below QQ (s₁.setTop (mkF m 9 #[iv p1, iv p2, iv p3, iv p4, iv p5, iv (p1 &&& (2147483647 : Int32)), .unset, .unset, .unset, .unset, .unset, .unset] [(.int 2147483647), (.int p2)]))
  refine Goes.on (fun t k => XS.iand X0.here hx rfl (hb hby at_9) rfl k) ?_
  show Goes p e below QQ (s₁.setTop (mkF m 10 #[iv p1, iv p2, iv p3, iv p4, iv p5, iv (p1 &&& (2147483647 : Int32)), .unset, .unset, .unset, .unset, .unset, .unset] [(.int (p2 &&& (2147483647 : Int32)))]))
  refine Goes.on (fun t k => XS.istore X0.here hx rfl (hb hby at_10) rfl (l' := #[iv p1, iv p2, iv p3, iv p4, iv p5, iv (p1 &&& (2147483647 : Int32)), iv (p2 &&& (2147483647 : Int32)), .unset, .unset, .unset, .unset, .unset]) rfl k) ?_
  show Goes p e below QQ (s₁.setTop (mkF m 12 #[iv p1, iv p2, iv p3, iv p4, iv p5, iv (p1 &&& (2147483647 : Int32)), iv (p2 &&& (2147483647 : Int32)), .unset, .unset, .unset, .unset, .unset] []))
  refine Goes.on (fun t k => XS.iloadN X0.here hx rfl (hb hby at_12) rfl k) ?_
  show Goes p e below QQ (s₁.setTop (mkF m 13 #[iv p1, iv p2, iv p3, iv p4, iv p5, iv (p1 &&& (2147483647 : Int32)), iv (p2 &&& (2147483647 : Int32)), .unset, .unset, .unset, .unset, .unset] [(.int p3)]))
  refine Goes.on (fun t k => X0.ldcInt hx hown (mvT hZ (hw _ (List.mem_of_getElem? (i := 0) rfl))) (g := (mkF m 13 #[iv p1, iv p2, iv p3, iv p4, iv p5, iv (p1 &&& (2147483647 : Int32)), iv (p2 &&& (2147483647 : Int32)), .unset, .unset, .unset, .unset, .unset] [(.int p3)])) rfl (hb hby at_13) t k) ?_
  show Goes p e below QQ (s₁.setTop (mkF m 15 #[iv p1, iv p2, iv p3, iv p4, iv p5, iv (p1 &&& (2147483647 : Int32)), iv (p2 &&& (2147483647 : Int32)), .unset, .unset, .unset, .unset, .unset] [(.int 2147483647), (.int p3)]))
  refine Goes.on (fun t k => XS.iand X0.here hx rfl (hb hby at_15) rfl k) ?_
  show Goes p e below QQ (s₁.setTop (mkF m 16 #[iv p1, iv p2, iv p3, iv p4, iv p5, iv (p1 &&& (2147483647 : Int32)), iv (p2 &&& (2147483647 : Int32)), .unset, .unset, .unset, .unset, .unset] [(.int (p3 &&& (2147483647 : Int32)))]))
  refine Goes.on (fun t k => XS.istore X0.here hx rfl (hb hby at_16) rfl (l' := #[iv p1, iv p2, iv p3, iv p4, iv p5, iv (p1 &&& (2147483647 : Int32)), iv (p2 &&& (2147483647 : Int32)), iv (p3 &&& (2147483647 : Int32)), .unset, .unset, .unset, .unset]) rfl k) ?_
  show Goes p e below QQ (s₁.setTop (mkF m 18 #[iv p1, iv p2, iv p3, iv p4, iv p5, iv (p1 &&& (2147483647 : Int32)), iv (p2 &&& (2147483647 : Int32)), iv (p3 &&& (2147483647 : Int32)), .unset, .unset, .unset, .unset] []))
  refine Goes.on (fun t k => XS.iload X0.here hx rfl (hb hby at_18) rfl k) ?_
  show Goes p e below QQ (s₁.setTop (mkF m 20 #[iv p1, iv p2, iv p3, iv p4, iv p5, iv (p1 &&& (2147483647 : Int32)), iv (p2 &&& (2147483647 : Int32)), iv (p3 &&& (2147483647 : Int32)), .unset, .unset, .unset, .unset] [(.int p5)]))
  refine Goes.on (fun t k => X0.ldcInt hx hown (mvT hZ (hw _ (List.mem_of_getElem? (i := 0) rfl))) (g := (mkF m 20 #[iv p1, iv p2, iv p3, iv p4, iv p5, iv (p1 &&& (2147483647 : Int32)), iv (p2 &&& (2147483647 : Int32)), iv (p3 &&& (2147483647 : Int32)), .unset, .unset, .unset, .unset] [(.int p5)])) rfl (hb hby at_20) t k) ?_
  show Goes p e below QQ (s₁.setTop (mkF m 22 #[iv p1, iv p2, iv p3, iv p4, iv p5, iv (p1 &&& (2147483647 : Int32)), iv (p2 &&& (2147483647 : Int32)), iv (p3 &&& (2147483647 : Int32)), .unset, .unset, .unset, .unset] [(.int 2147483647), (.int p5)]))
  refine Goes.on (fun t k => XS.iand X0.here hx rfl (hb hby at_22) rfl k) ?_
  show Goes p e below QQ (s₁.setTop (mkF m 23 #[iv p1, iv p2, iv p3, iv p4, iv p5, iv (p1 &&& (2147483647 : Int32)), iv (p2 &&& (2147483647 : Int32)), iv (p3 &&& (2147483647 : Int32)), .unset, .unset, .unset, .unset] [(.int (p5 &&& (2147483647 : Int32)))]))
  refine Goes.on (fun t k => XS.istore X0.here hx rfl (hb hby at_23) rfl (l' := #[iv p1, iv p2, iv p3, iv p4, iv p5, iv (p1 &&& (2147483647 : Int32)), iv (p2 &&& (2147483647 : Int32)), iv (p3 &&& (2147483647 : Int32)), iv (p5 &&& (2147483647 : Int32)), .unset, .unset, .unset]) rfl k) ?_
  show Goes p e below QQ (s₁.setTop (mkF m 25 #[iv p1, iv p2, iv p3, iv p4, iv p5, iv (p1 &&& (2147483647 : Int32)), iv (p2 &&& (2147483647 : Int32)), iv (p3 &&& (2147483647 : Int32)), iv (p5 &&& (2147483647 : Int32)), .unset, .unset, .unset] []))
  obtain ⟨T1, h1, X1, e1, E1, A1, D1, -, st1⟩ := newO X0 hx hZ hown (hw _ (List.mem_of_getElem? (i := 1) rfl)) (hw _ (List.mem_of_getElem? (i := 2) rfl)) (hw _ (List.mem_of_getElem? (i := 3) rfl)) e0 (g := (mkF m 25 #[iv p1, iv p2, iv p3, iv p4, iv p5, iv (p1 &&& (2147483647 : Int32)), iv (p2 &&& (2147483647 : Int32)), iv (p3 &&& (2147483647 : Int32)), iv (p5 &&& (2147483647 : Int32)), .unset, .unset, .unset] [])) rfl (hb hby at_25) (by decide) (by decide)
  obtain ⟨b1, g1⟩ : ∃ z, z = h0.size := ⟨_, rfl⟩
  rw [← g1] at A1 D1 st1
  have sz_b1 : h0.size ≤ b1 := Nat.le_trans K0.1 (Nat.le_of_eq g1.symm)
  have g_b1 : n0 ≤ b1 := Nat.le_trans Z0 sz_b1
  have ne_x0_b1 : x0 ≠ b1 := Nat.ne_of_lt (Nat.lt_of_lt_of_le E_x0.lt (Nat.le_of_eq g1.symm))
  have ne_x1_b1 : x1 ≠ b1 := Nat.ne_of_lt (Nat.lt_of_lt_of_le E_x1.lt (Nat.le_of_eq g1.symm))
  have ne_x2_b1 : x2 ≠ b1 := Nat.ne_of_lt (Nat.lt_of_lt_of_le E_x2.lt (Nat.le_of_eq g1.symm))
  have ne_xV_b1 : xV ≠ b1 := Nat.ne_of_lt (Nat.lt_of_lt_of_le E_xV.lt (Nat.le_of_eq g1.symm))
  have E_2 := E_x0.ext E1
  have F_3 := F_ordinal_x0.ext E1
  have E_4 := E_x1.ext E1
  have F_5 := F_ordinal_x1.ext E1
  have E_6 := E_x2.ext E1
  have F_7 := F_ordinal_x2.ext E1
  have O_8 := O_0.ext E1
  have E_9 := E_xV.ext E1
  have K1 := K0.ext E1
  have F_10 : Fld Z h1 b1 "com/example/sober_links/soberlinks/io/LeftOutItems" "counts" "[I" .null := D1 (Or.inr (hw _ (List.mem_of_getElem? (i := 31) rfl))) (ty := (.array .int)) (by decide)
  refine Goes.on (fun t k => st1 t k) ?_
  show Goes p e below QQ (T1.setTop (mkF m 28 #[iv p1, iv p2, iv p3, iv p4, iv p5, iv (p1 &&& (2147483647 : Int32)), iv (p2 &&& (2147483647 : Int32)), iv (p3 &&& (2147483647 : Int32)), iv (p5 &&& (2147483647 : Int32)), .unset, .unset, .unset] [(.ref b1)]))
  refine Goes.on (fun t k => XS.dup X1.here hx rfl (hb hby at_28) rfl rfl k) ?_
  show Goes p e below QQ (T1.setTop (mkF m 29 #[iv p1, iv p2, iv p3, iv p4, iv p5, iv (p1 &&& (2147483647 : Int32)), iv (p2 &&& (2147483647 : Int32)), iv (p3 &&& (2147483647 : Int32)), iv (p5 &&& (2147483647 : Int32)), .unset, .unset, .unset] [(.ref b1), (.ref b1)]))
  obtain ⟨_, _, ⟨T11, L11, k11, n11⟩, -, X11, ⟨Lc11, hQ11, l11, y11, z11⟩, st11⟩ := X1.specialBack hx (y := (⟨"com/example/sober_links/soberlinks/io/LeftOutItems", "<init>", "()V"⟩ : MethodName)) rfl hown (mvT hZ (hw _ (List.mem_of_getElem? (i := 4) rfl))) (mvT hZ (hw _ (List.mem_of_getElem? (i := 5) rfl))) (mvT hZ (hw _ (List.mem_of_getElem? (i := 6) rfl))) (by decide) (backOf (W := 1) (rm2 l Z a0 hw [] b1 xV cv h1 n0 (Nat.le_trans Z0 K1.1) S_qVALUES O_8 (A_v.ext O_8.2) E_9 F_v sz_v A1 F_10 g_b1) hZ (hw _ (List.mem_of_getElem? (i := 6) rfl)) (hw _ (List.mem_of_getElem? (i := 3) rfl)) (by decide) (by decide)) (g := (mkF m 29 #[iv p1, iv p2, iv p3, iv p4, iv p5, iv (p1 &&& (2147483647 : Int32)), iv (p2 &&& (2147483647 : Int32)), iv (p3 &&& (2147483647 : Int32)), iv (p5 &&& (2147483647 : Int32)), .unset, .unset, .unset] [(.ref b1), (.ref b1)])) rfl (by rw [hml]; rfl) (Steps.refl _) (a := b1) (argsL := []) (rest := [(.ref b1)]) (lenOf pd_2 rfl) rfl (by show 2 * 0 + _ ≤ _; exact Nat.le_of_eq rfl) (hb hby at_29) (fun _ _ => ⟨rfl, e1, (by decide : 1 + 2 ≤ _), (by decide : 1 + 6 ≤ _)⟩)
  dsimp only [Pt.U, Pt.locs, Pt.cells, Pt.slots] at X11 l11 y11 z11 st11 hQ11
  subst l11 y11 z11
  obtain ⟨bc, kc, rfl, M11, Kc, szc, Fc, V_c⟩ := hQ11
  have sz_bc : h0.size ≤ bc := Nat.le_trans K1.1 szc
  have g_bc : n0 ≤ bc := Nat.le_trans Z0 sz_bc
  have ne_x0_bc : x0 ≠ bc := Nat.ne_of_lt (Nat.lt_of_lt_of_le E_2.lt szc)
  have ne_x1_bc : x1 ≠ bc := Nat.ne_of_lt (Nat.lt_of_lt_of_le E_4.lt szc)
  have ne_x2_bc : x2 ≠ bc := Nat.ne_of_lt (Nat.lt_of_lt_of_le E_6.lt szc)
  have ne_xV_bc : xV ≠ bc := Nat.ne_of_lt (Nat.lt_of_lt_of_le E_9.lt szc)
  have ne_b1_bc : b1 ≠ bc := Nat.ne_of_lt (Nat.lt_of_lt_of_le A1.lt szc)
  have N11 := Fr.app N0 M11
  refine Goes.on (fun t k => st11.trans k) ?_
  have E_12 := E_2.keep Kc
  have F_13 := F_3.keep Kc (ninS ne_x0_b1 nin0)
  have E_14 := E_4.keep Kc
  have F_15 := F_5.keep Kc (ninS ne_x1_b1 nin0)
  have E_16 := E_6.keep Kc
  have F_17 := F_7.keep Kc (ninS ne_x2_b1 nin0)
  have O_18 := O_8.keep Kc (allS g_b1 all0)
  have E_19 := E_9.keep Kc
  have A1_20 := A1.keep Kc
  have K22 := K1.trans Kc (allS (Or.inr sz_b1) all0)
  show Goes p e below QQ (T11.setTop (mkF m 32 #[iv p1, iv p2, iv p3, iv p4, iv p5, iv (p1 &&& (2147483647 : Int32)), iv (p2 &&& (2147483647 : Int32)), iv (p3 &&& (2147483647 : Int32)), iv (p5 &&& (2147483647 : Int32)), .unset, .unset, .unset] [(.ref b1)]))
  refine Goes.on (fun t k => XS.astore X11.here hx rfl (hb hby at_32) rfl rfl (l' := #[iv p1, iv p2, iv p3, iv p4, iv p5, iv (p1 &&& (2147483647 : Int32)), iv (p2 &&& (2147483647 : Int32)), iv (p3 &&& (2147483647 : Int32)), iv (p5 &&& (2147483647 : Int32)), rv b1, .unset, .unset]) rfl k) ?_
  show Goes p e below QQ (T11.setTop (mkF m 34 #[iv p1, iv p2, iv p3, iv p4, iv p5, iv (p1 &&& (2147483647 : Int32)), iv (p2 &&& (2147483647 : Int32)), iv (p3 &&& (2147483647 : Int32)), iv (p5 &&& (2147483647 : Int32)), rv b1, .unset, .unset] []))
  refine Goes.on (fun t k => XS.aload X11.here hx rfl (hb hby at_34) rfl rfl k) ?_
  show Goes p e below QQ (T11.setTop (mkF m 36 #[iv p1, iv p2, iv p3, iv p4, iv p5, iv (p1 &&& (2147483647 : Int32)), iv (p2 &&& (2147483647 : Int32)), iv (p3 &&& (2147483647 : Int32)), iv (p5 &&& (2147483647 : Int32)), rv b1, .unset, .unset] [(.ref b1)]))
  obtain ⟨cq23, kq23, q23a, q23b, q23c⟩ := isOf hZ rfl A1_20
  obtain ⟨_, _, ⟨T23, L23, k23, n23⟩, -, X23, ⟨Lc23, hQ23, l23, y23, z23⟩, st23⟩ := X11.virtualBack hx (y := (⟨"com/example/sober_links/soberlinks/io/LeftOutItems", "total", "()I"⟩ : MethodName)) (z := (⟨"com/example/sober_links/soberlinks/io/LeftOutItems", "total", "()I"⟩ : MethodName)) hown (mvT hZ (hw _ (List.mem_of_getElem? (i := 32) rfl))) (mvT hZ (hw _ (List.mem_of_getElem? (i := 33) rfl))) (notFace_of_selects (args := #[]) (mvT hZ (hw _ (List.mem_of_getElem? (i := 35) rfl)))) (mvT hZ (hw _ (List.mem_of_getElem? (i := 35) rfl))) (mvT hZ (hw _ (List.mem_of_getElem? (i := 34) rfl))) (by decide) (backOf (W := 0) (rm5 l Z a0 hw [] b1 bc kc (0 : Int32) (0 : Int32) (0 : Int32) T11.heap n0 (Nat.le_trans Z0 K22.1) Fc V_c) hZ (hw _ (List.mem_of_getElem? (i := 36) rfl)) (hw _ (List.mem_of_getElem? (i := 3) rfl)) (by decide) (by decide)) q23a q23c (g := (mkF m 36 #[iv p1, iv p2, iv p3, iv p4, iv p5, iv (p1 &&& (2147483647 : Int32)), iv (p2 &&& (2147483647 : Int32)), iv (p3 &&& (2147483647 : Int32)), iv (p5 &&& (2147483647 : Int32)), rv b1, .unset, .unset] [(.ref b1)])) rfl (by rw [hml]; rfl) (Steps.refl _) (argsL := []) (rest := []) (lenOf pd_1 rfl) rfl (by show 2 * 0 + _ ≤ _; exact Nat.le_of_eq rfl) (hb hby at_36) (fun _ _ => ⟨rfl, rfl, (by decide : 3 + 0 ≤ _), (by decide : 7 + 0 ≤ _)⟩)
  dsimp only [Pt.U, Pt.locs, Pt.cells, Pt.slots] at X23 l23 y23 z23 st23 hQ23
  subst l23 y23 z23
  obtain ⟨rfl, M23, e23⟩ := hQ23
  have N23 := Fr.app N11 M23
  refine Goes.on (fun t k => st23.trans k) ?_
  show Goes p e below QQ (T23.setTop (mkF m 39 #[iv p1, iv p2, iv p3, iv p4, iv p5, iv (p1 &&& (2147483647 : Int32)), iv (p2 &&& (2147483647 : Int32)), iv (p3 &&& (2147483647 : Int32)), iv (p5 &&& (2147483647 : Int32)), rv b1, .unset, .unset] [(.int (sum3 (0 : Int32) (0 : Int32) (0 : Int32)))]))
  rw [(by decide : sum3 (0 : Int32) (0 : Int32) (0 : Int32) = (0 : Int32))]
  show Goes p e below QQ (T23.setTop (mkF m 39 #[iv p1, iv p2, iv p3, iv p4, iv p5, iv (p1 &&& (2147483647 : Int32)), iv (p2 &&& (2147483647 : Int32)), iv (p3 &&& (2147483647 : Int32)), iv (p5 &&& (2147483647 : Int32)), rv b1, .unset, .unset] [(.int 0)]))
  refine Goes.on (fun t k => XS.ifNo X23.here hx rfl (hb hby at_39) rfl ((if0 _ _).trans (teq (by decide)).2) k) ?_
  show Goes p e below QQ (T23.setTop (mkF m 42 #[iv p1, iv p2, iv p3, iv p4, iv p5, iv (p1 &&& (2147483647 : Int32)), iv (p2 &&& (2147483647 : Int32)), iv (p3 &&& (2147483647 : Int32)), iv (p5 &&& (2147483647 : Int32)), rv b1, .unset, .unset] []))
  refine Goes.on (fun t k => XS.iconst X23.here hx rfl (hb hby at_42) k) ?_
  show Goes p e below QQ (T23.setTop (mkF m 43 #[iv p1, iv p2, iv p3, iv p4, iv p5, iv (p1 &&& (2147483647 : Int32)), iv (p2 &&& (2147483647 : Int32)), iv (p3 &&& (2147483647 : Int32)), iv (p5 &&& (2147483647 : Int32)), rv b1, .unset, .unset] [(.int 1)]))
  refine Goes.on (fun t k => XS.goto X23.here hx rfl (pc0 := 43) (pc' := 47) rfl (hb hby at_43) (by decide) (by decide) k) ?_
  show Goes p e below QQ (T23.setTop (mkF m 47 #[iv p1, iv p2, iv p3, iv p4, iv p5, iv (p1 &&& (2147483647 : Int32)), iv (p2 &&& (2147483647 : Int32)), iv (p3 &&& (2147483647 : Int32)), iv (p5 &&& (2147483647 : Int32)), rv b1, .unset, .unset] [(.int 1)]))
  refine Goes.on (fun t k => XS.istore X23.here hx rfl (hb hby at_47) rfl (l' := #[iv p1, iv p2, iv p3, iv p4, iv p5, iv (p1 &&& (2147483647 : Int32)), iv (p2 &&& (2147483647 : Int32)), iv (p3 &&& (2147483647 : Int32)), iv (p5 &&& (2147483647 : Int32)), rv b1, iv 1, .unset]) rfl k) ?_
  show Goes p e below QQ (T23.setTop (mkF m 49 #[iv p1, iv p2, iv p3, iv p4, iv p5, iv (p1 &&& (2147483647 : Int32)), iv (p2 &&& (2147483647 : Int32)), iv (p3 &&& (2147483647 : Int32)), iv (p5 &&& (2147483647 : Int32)), rv b1, iv 1, .unset] []))
  refine Goes.on (fun t k => XS.aload X23.here hx rfl (hb hby at_49) rfl rfl k) ?_
  show Goes p e below QQ (T23.setTop (mkF m 51 #[iv p1, iv p2, iv p3, iv p4, iv p5, iv (p1 &&& (2147483647 : Int32)), iv (p2 &&& (2147483647 : Int32)), iv (p3 &&& (2147483647 : Int32)), iv (p5 &&& (2147483647 : Int32)), rv b1, iv 1, .unset] [(.ref b1)]))
  obtain ⟨T24, X24, e24, st24⟩ := getS2 X23 hx hZ hown (host := "") (Or.inl (hw _ (List.mem_of_getElem? (i := 37) rfl))) Via.refl e23 (S_RANK_ABOVE_ONE.ext O_18.2) (g := (mkF m 51 #[iv p1, iv p2, iv p3, iv p4, iv p5, iv (p1 &&& (2147483647 : Int32)), iv (p2 &&& (2147483647 : Int32)), iv (p3 &&& (2147483647 : Int32)), iv (p5 &&& (2147483647 : Int32)), rv b1, iv 1, .unset] [(.ref b1)])) rfl (hb hby at_51)
  refine Goes.on (fun t k => st24 t k) ?_
  show Goes p e below QQ (T24.setTop (mkF m 54 #[iv p1, iv p2, iv p3, iv p4, iv p5, iv (p1 &&& (2147483647 : Int32)), iv (p2 &&& (2147483647 : Int32)), iv (p3 &&& (2147483647 : Int32)), iv (p5 &&& (2147483647 : Int32)), rv b1, iv 1, .unset] [(.ref x0), (.ref b1)]))
  refine Goes.on (fun t k => XS.iload X24.here hx rfl (hb hby at_54) rfl k) ?_
  show Goes p e below QQ (T24.setTop (mkF m 56 #[iv p1, iv p2, iv p3, iv p4, iv p5, iv (p1 &&& (2147483647 : Int32)), iv (p2 &&& (2147483647 : Int32)), iv (p3 &&& (2147483647 : Int32)), iv (p5 &&& (2147483647 : Int32)), rv b1, iv 1, .unset] [(.int (p1 &&& (2147483647 : Int32))), (.ref x0), (.ref b1)]))
  obtain ⟨cq25, kq25, q25a, q25b, q25c⟩ := isOf hZ e24 A1_20
  obtain ⟨_, _, ⟨T25, L25, k25, n25⟩, -, X25, ⟨Lc25, hQ25, l25, y25, z25⟩, st25⟩ := X24.virtualBack hx (y := (⟨"com/example/sober_links/soberlinks/io/LeftOutItems", "add", "(Lcom/example/sober_links/soberlinks/io/LeftOutItems$Reason;I)V"⟩ : MethodName)) (z := (⟨"com/example/sober_links/soberlinks/io/LeftOutItems", "add", "(Lcom/example/sober_links/soberlinks/io/LeftOutItems$Reason;I)V"⟩ : MethodName)) hown (mvT hZ (hw _ (List.mem_of_getElem? (i := 38) rfl))) (mvT hZ (hw _ (List.mem_of_getElem? (i := 39) rfl))) (notFace_of_selects (args := #[]) (mvT hZ (hw _ (List.mem_of_getElem? (i := 41) rfl)))) (mvT hZ (hw _ (List.mem_of_getElem? (i := 41) rfl))) (mvT hZ (hw _ (List.mem_of_getElem? (i := 40) rfl))) (by decide) (backOf (W := 0) (rm4_0 l Z a0 hw [] b1 x0 bc kc (0 : Int32) (0 : Int32) (0 : Int32) (p1 &&& (2147483647 : Int32)) T11.heap n0 (Nat.le_trans Z0 K22.1) Fc E_12 F_13 V_c g_bc ne_b1_bc ne_x0_bc) hZ (hw _ (List.mem_of_getElem? (i := 42) rfl)) (hw _ (List.mem_of_getElem? (i := 3) rfl)) (by decide) (by decide)) q25a q25c (g := (mkF m 56 #[iv p1, iv p2, iv p3, iv p4, iv p5, iv (p1 &&& (2147483647 : Int32)), iv (p2 &&& (2147483647 : Int32)), iv (p3 &&& (2147483647 : Int32)), iv (p5 &&& (2147483647 : Int32)), rv b1, iv 1, .unset] [(.int (p1 &&& (2147483647 : Int32))), (.ref x0), (.ref b1)])) rfl (by rw [hml]; rfl) (Steps.refl _) (argsL := [(.ref x0), (.int (p1 &&& (2147483647 : Int32)))]) (rest := []) (lenOf pd_3 rfl) rfl (by show 2 * 0 + _ ≤ _; exact Nat.le_of_eq rfl) (hb hby at_56) (fun _ _ => ⟨rfl, e24, (by decide : 3 + 0 ≤ _), (by decide : 7 + 0 ≤ _)⟩)
  dsimp only [Pt.U, Pt.locs, Pt.cells, Pt.slots] at X25 l25 y25 z25 st25 hQ25
  subst l25 y25 z25
  obtain ⟨rfl, M25, Kd56, V_d56⟩ := hQ25
  have N25 := Fr.app N23 M25
  refine Goes.on (fun t k => st25.trans k) ?_
  have E_26 := E_12.keep Kd56
  have F_27 := F_13.keep Kd56 (ninS ne_x0_bc nin0)
  have E_28 := E_14.keep Kd56
  have F_29 := F_15.keep Kd56 (ninS ne_x1_bc nin0)
  have E_30 := E_16.keep Kd56
  have F_31 := F_17.keep Kd56 (ninS ne_x2_bc nin0)
  have O_32 := O_18.keep Kd56 (allS g_bc all0)
  have E_33 := E_19.keep Kd56
  have A1_34 := A1_20.keep Kd56
  have Fc_35 := Fc.keep Kd56 (ninS ne_b1_bc nin0)
  have K37 := K22.trans Kd56 (allS (Or.inr sz_bc) all0)
  show Goes p e below QQ (T25.setTop (mkF m 59 #[iv p1, iv p2, iv p3, iv p4, iv p5, iv (p1 &&& (2147483647 : Int32)), iv (p2 &&& (2147483647 : Int32)), iv (p3 &&& (2147483647 : Int32)), iv (p5 &&& (2147483647 : Int32)), rv b1, iv 1, .unset] []))
  refine Goes.on (fun t k => XS.aload X25.here hx rfl (hb hby at_59) rfl rfl k) ?_
  show Goes p e below QQ (T25.setTop (mkF m 61 #[iv p1, iv p2, iv p3, iv p4, iv p5, iv (p1 &&& (2147483647 : Int32)), iv (p2 &&& (2147483647 : Int32)), iv (p3 &&& (2147483647 : Int32)), iv (p5 &&& (2147483647 : Int32)), rv b1, iv 1, .unset] [(.ref b1)]))
  obtain ⟨T38, X38, e38, st38⟩ := getS2 X25 hx hZ hown (host := "") (Or.inl (hw _ (List.mem_of_getElem? (i := 52) rfl))) Via.refl rfl (S_WITHOUT_CROSSLINK.ext O_32.2) (g := (mkF m 61 #[iv p1, iv p2, iv p3, iv p4, iv p5, iv (p1 &&& (2147483647 : Int32)), iv (p2 &&& (2147483647 : Int32)), iv (p3 &&& (2147483647 : Int32)), iv (p5 &&& (2147483647 : Int32)), rv b1, iv 1, .unset] [(.ref b1)])) rfl (hb hby at_61)
  refine Goes.on (fun t k => st38 t k) ?_
  show Goes p e below QQ (T38.setTop (mkF m 64 #[iv p1, iv p2, iv p3, iv p4, iv p5, iv (p1 &&& (2147483647 : Int32)), iv (p2 &&& (2147483647 : Int32)), iv (p3 &&& (2147483647 : Int32)), iv (p5 &&& (2147483647 : Int32)), rv b1, iv 1, .unset] [(.ref x1), (.ref b1)]))
  refine Goes.on (fun t k => XS.iload X38.here hx rfl (hb hby at_64) rfl k) ?_
  show Goes p e below QQ (T38.setTop (mkF m 66 #[iv p1, iv p2, iv p3, iv p4, iv p5, iv (p1 &&& (2147483647 : Int32)), iv (p2 &&& (2147483647 : Int32)), iv (p3 &&& (2147483647 : Int32)), iv (p5 &&& (2147483647 : Int32)), rv b1, iv 1, .unset] [(.int (p2 &&& (2147483647 : Int32))), (.ref x1), (.ref b1)]))
  obtain ⟨cq39, kq39, q39a, q39b, q39c⟩ := isOf hZ e38 A1_34
  obtain ⟨_, _, ⟨T39, L39, k39, n39⟩, -, X39, ⟨Lc39, hQ39, l39, y39, z39⟩, st39⟩ := X38.virtualBack hx (y := (⟨"com/example/sober_links/soberlinks/io/LeftOutItems", "add", "(Lcom/example/sober_links/soberlinks/io/LeftOutItems$Reason;I)V"⟩ : MethodName)) (z := (⟨"com/example/sober_links/soberlinks/io/LeftOutItems", "add", "(Lcom/example/sober_links/soberlinks/io/LeftOutItems$Reason;I)V"⟩ : MethodName)) hown (mvT hZ (hw _ (List.mem_of_getElem? (i := 38) rfl))) (mvT hZ (hw _ (List.mem_of_getElem? (i := 39) rfl))) (notFace_of_selects (args := #[]) (mvT hZ (hw _ (List.mem_of_getElem? (i := 41) rfl)))) (mvT hZ (hw _ (List.mem_of_getElem? (i := 41) rfl))) (mvT hZ (hw _ (List.mem_of_getElem? (i := 40) rfl))) (by decide) (backOf (W := 0) (rm4_1 l Z a0 hw [] b1 x1 bc kc ((0 : Int32) + (p1 &&& (2147483647 : Int32))) (0 : Int32) (0 : Int32) (p2 &&& (2147483647 : Int32)) T25.heap n0 (Nat.le_trans Z0 K37.1) Fc_35 E_28 F_29 V_d56 g_bc ne_b1_bc ne_x1_bc) hZ (hw _ (List.mem_of_getElem? (i := 42) rfl)) (hw _ (List.mem_of_getElem? (i := 3) rfl)) (by decide) (by decide)) q39a q39c (g := (mkF m 66 #[iv p1, iv p2, iv p3, iv p4, iv p5, iv (p1 &&& (2147483647 : Int32)), iv (p2 &&& (2147483647 : Int32)), iv (p3 &&& (2147483647 : Int32)), iv (p5 &&& (2147483647 : Int32)), rv b1, iv 1, .unset] [(.int (p2 &&& (2147483647 : Int32))), (.ref x1), (.ref b1)])) rfl (by rw [hml]; rfl) (Steps.refl _) (argsL := [(.ref x1), (.int (p2 &&& (2147483647 : Int32)))]) (rest := []) (lenOf pd_3 rfl) rfl (by show 2 * 0 + _ ≤ _; exact Nat.le_of_eq rfl) (hb hby at_66) (fun _ _ => ⟨rfl, e38, (by decide : 3 + 0 ≤ _), (by decide : 7 + 0 ≤ _)⟩)
  dsimp only [Pt.U, Pt.locs, Pt.cells, Pt.slots] at X39 l39 y39 z39 st39 hQ39
  subst l39 y39 z39
  obtain ⟨rfl, M39, Kd66, V_d66⟩ := hQ39
  have N39 := Fr.app N25 M39
  refine Goes.on (fun t k => st39.trans k) ?_
  have E_40 := E_26.keep Kd66
  have F_41 := F_27.keep Kd66 (ninS ne_x0_bc nin0)
  have E_42 := E_28.keep Kd66
  have F_43 := F_29.keep Kd66 (ninS ne_x1_bc nin0)
  have E_44 := E_30.keep Kd66
  have F_45 := F_31.keep Kd66 (ninS ne_x2_bc nin0)
  have O_46 := O_32.keep Kd66 (allS g_bc all0)
  have E_47 := E_33.keep Kd66
  have A1_48 := A1_34.keep Kd66
  have Fc_49 := Fc_35.keep Kd66 (ninS ne_b1_bc nin0)
  have K51 := K37.trans Kd66 (allS (Or.inr sz_bc) all0)
  show Goes p e below QQ (T39.setTop (mkF m 69 #[iv p1, iv p2, iv p3, iv p4, iv p5, iv (p1 &&& (2147483647 : Int32)), iv (p2 &&& (2147483647 : Int32)), iv (p3 &&& (2147483647 : Int32)), iv (p5 &&& (2147483647 : Int32)), rv b1, iv 1, .unset] []))
  refine Goes.on (fun t k => XS.aload X39.here hx rfl (hb hby at_69) rfl rfl k) ?_
  show Goes p e below QQ (T39.setTop (mkF m 71 #[iv p1, iv p2, iv p3, iv p4, iv p5, iv (p1 &&& (2147483647 : Int32)), iv (p2 &&& (2147483647 : Int32)), iv (p3 &&& (2147483647 : Int32)), iv (p5 &&& (2147483647 : Int32)), rv b1, iv 1, .unset] [(.ref b1)]))
  obtain ⟨T52, X52, e52, st52⟩ := getS2 X39 hx hZ hown (host := "") (Or.inl (hw _ (List.mem_of_getElem? (i := 53) rfl))) Via.refl rfl (S_NOT_DONOR_AND_ACCEPTOR.ext O_46.2) (g := (mkF m 71 #[iv p1, iv p2, iv p3, iv p4, iv p5, iv (p1 &&& (2147483647 : Int32)), iv (p2 &&& (2147483647 : Int32)), iv (p3 &&& (2147483647 : Int32)), iv (p5 &&& (2147483647 : Int32)), rv b1, iv 1, .unset] [(.ref b1)])) rfl (hb hby at_71)
  refine Goes.on (fun t k => st52 t k) ?_
  show Goes p e below QQ (T52.setTop (mkF m 74 #[iv p1, iv p2, iv p3, iv p4, iv p5, iv (p1 &&& (2147483647 : Int32)), iv (p2 &&& (2147483647 : Int32)), iv (p3 &&& (2147483647 : Int32)), iv (p5 &&& (2147483647 : Int32)), rv b1, iv 1, .unset] [(.ref x2), (.ref b1)]))
  refine Goes.on (fun t k => XS.iload X52.here hx rfl (hb hby at_74) rfl k) ?_
  show Goes p e below QQ (T52.setTop (mkF m 76 #[iv p1, iv p2, iv p3, iv p4, iv p5, iv (p1 &&& (2147483647 : Int32)), iv (p2 &&& (2147483647 : Int32)), iv (p3 &&& (2147483647 : Int32)), iv (p5 &&& (2147483647 : Int32)), rv b1, iv 1, .unset] [(.int (p3 &&& (2147483647 : Int32))), (.ref x2), (.ref b1)]))
  obtain ⟨cq53, kq53, q53a, q53b, q53c⟩ := isOf hZ e52 A1_48
  obtain ⟨_, _, ⟨T53, L53, k53, n53⟩, -, X53, ⟨Lc53, hQ53, l53, y53, z53⟩, st53⟩ := X52.virtualBack hx (y := (⟨"com/example/sober_links/soberlinks/io/LeftOutItems", "add", "(Lcom/example/sober_links/soberlinks/io/LeftOutItems$Reason;I)V"⟩ : MethodName)) (z := (⟨"com/example/sober_links/soberlinks/io/LeftOutItems", "add", "(Lcom/example/sober_links/soberlinks/io/LeftOutItems$Reason;I)V"⟩ : MethodName)) hown (mvT hZ (hw _ (List.mem_of_getElem? (i := 38) rfl))) (mvT hZ (hw _ (List.mem_of_getElem? (i := 39) rfl))) (notFace_of_selects (args := #[]) (mvT hZ (hw _ (List.mem_of_getElem? (i := 41) rfl)))) (mvT hZ (hw _ (List.mem_of_getElem? (i := 41) rfl))) (mvT hZ (hw _ (List.mem_of_getElem? (i := 40) rfl))) (by decide) (backOf (W := 0) (rm4_2 l Z a0 hw [] b1 x2 bc kc ((0 : Int32) + (p1 &&& (2147483647 : Int32))) ((0 : Int32) + (p2 &&& (2147483647 : Int32))) (0 : Int32) (p3 &&& (2147483647 : Int32)) T39.heap n0 (Nat.le_trans Z0 K51.1) Fc_49 E_44 F_45 V_d66 g_bc ne_b1_bc ne_x2_bc) hZ (hw _ (List.mem_of_getElem? (i := 42) rfl)) (hw _ (List.mem_of_getElem? (i := 3) rfl)) (by decide) (by decide)) q53a q53c (g := (mkF m 76 #[iv p1, iv p2, iv p3, iv p4, iv p5, iv (p1 &&& (2147483647 : Int32)), iv (p2 &&& (2147483647 : Int32)), iv (p3 &&& (2147483647 : Int32)), iv (p5 &&& (2147483647 : Int32)), rv b1, iv 1, .unset] [(.int (p3 &&& (2147483647 : Int32))), (.ref x2), (.ref b1)])) rfl (by rw [hml]; rfl) (Steps.refl _) (argsL := [(.ref x2), (.int (p3 &&& (2147483647 : Int32)))]) (rest := []) (lenOf pd_3 rfl) rfl (by show 2 * 0 + _ ≤ _; exact Nat.le_of_eq rfl) (hb hby at_76) (fun _ _ => ⟨rfl, e52, (by decide : 3 + 0 ≤ _), (by decide : 7 + 0 ≤ _)⟩)
  dsimp only [Pt.U, Pt.locs, Pt.cells, Pt.slots] at X53 l53 y53 z53 st53 hQ53
  subst l53 y53 z53
  obtain ⟨rfl, M53, Kd76, V_d76⟩ := hQ53
  have N53 := Fr.app N39 M53
  refine Goes.on (fun t k => st53.trans k) ?_
  have E_54 := E_40.keep Kd76
  have F_55 := F_41.keep Kd76 (ninS ne_x0_bc nin0)
  have E_56 := E_42.keep Kd76
  have F_57 := F_43.keep Kd76 (ninS ne_x1_bc nin0)
  have E_58 := E_44.keep Kd76
  have F_59 := F_45.keep Kd76 (ninS ne_x2_bc nin0)
  have O_60 := O_46.keep Kd76 (allS g_bc all0)
  have E_61 := E_47.keep Kd76
  have A1_62 := A1_48.keep Kd76
  have Fc_63 := Fc_49.keep Kd76 (ninS ne_b1_bc nin0)
  have K65 := K51.trans Kd76 (allS (Or.inr sz_bc) all0)
  show Goes p e below QQ (T53.setTop (mkF m 79 #[iv p1, iv p2, iv p3, iv p4, iv p5, iv (p1 &&& (2147483647 : Int32)), iv (p2 &&& (2147483647 : Int32)), iv (p3 &&& (2147483647 : Int32)), iv (p5 &&& (2147483647 : Int32)), rv b1, iv 1, .unset] []))
  refine Goes.on (fun t k => XS.aload X53.here hx rfl (hb hby at_79) rfl rfl k) ?_
  show Goes p e below QQ (T53.setTop (mkF m 81 #[iv p1, iv p2, iv p3, iv p4, iv p5, iv (p1 &&& (2147483647 : Int32)), iv (p2 &&& (2147483647 : Int32)), iv (p3 &&& (2147483647 : Int32)), iv (p5 &&& (2147483647 : Int32)), rv b1, iv 1, .unset] [(.ref b1)]))
  refine Goes.on (fun t k => XS.iloadN X53.here hx rfl (hb hby at_81) rfl k) ?_
  show Goes p e below QQ (T53.setTop (mkF m 82 #[iv p1, iv p2, iv p3, iv p4, iv p5, iv (p1 &&& (2147483647 : Int32)), iv (p2 &&& (2147483647 : Int32)), iv (p3 &&& (2147483647 : Int32)), iv (p5 &&& (2147483647 : Int32)), rv b1, iv 1, .unset] [(.int p4), (.ref b1)]))
  obtain ⟨_, _, ⟨T66, L66, k66, n66⟩, -, X66, ⟨Lc66, hQ66, l66, y66, z66⟩, st66⟩ := Jvm.LawKit.callS X53 hx (y := (⟨"com/example/sober_links/soberlinks/io/LeftOutItemsTotalPinLaw", "pick", "(I)Lcom/example/sober_links/soberlinks/io/LeftOutItems$Reason;"⟩ : MethodName)) hown (mvT hZ (hw _ (List.mem_of_getElem? (i := 54) rfl))) (mvT hZ (hw _ (List.mem_of_getElem? (i := 55) rfl))) (mvT hZ (hw _ (List.mem_of_getElem? (i := 56) rfl))) (mvT hZ (hw _ (List.mem_of_getElem? (i := 57) rfl))) (by decide) (backOf (W := 1) (rm6 l Z a0 hw [] p4 x0 x1 x2 T53.heap n0 (Nat.le_trans Z0 K65.1) S_RANK_ABOVE_ONE S_WITHOUT_CROSSLINK S_NOT_DONOR_AND_ACCEPTOR O_60) hZ (hw _ (List.mem_of_getElem? (i := 57) rfl)) (hw _ (List.mem_of_getElem? (i := 56) rfl)) (by decide) (by decide)) (g := (mkF m 82 #[iv p1, iv p2, iv p3, iv p4, iv p5, iv (p1 &&& (2147483647 : Int32)), iv (p2 &&& (2147483647 : Int32)), iv (p3 &&& (2147483647 : Int32)), iv (p5 &&& (2147483647 : Int32)), rv b1, iv 1, .unset] [(.int p4), (.ref b1)])) rfl (by rw [hml]; rfl) (argsL := [(.int p4)]) (rest := [(.ref b1)]) (lenOf pd_4 rfl) rfl (by show 2 * 0 + _ ≤ _; exact Nat.le_of_eq rfl) (hb hby at_82) (fun _ _ => ⟨rfl, rfl, (by decide : 3 + 0 ≤ _), (by decide : 7 + 0 ≤ _)⟩)
  dsimp only [Pt.U, Pt.locs, Pt.cells, Pt.slots] at X66 l66 y66 z66 st66 hQ66
  subst l66 y66 z66
  obtain ⟨rfl, M66, e66⟩ := hQ66
  have N66 := Fr.app N53 M66
  refine Goes.on (fun t k => st66 _ k) ?_
  show Goes p e below QQ (T66.setTop (mkF m 85 #[iv p1, iv p2, iv p3, iv p4, iv p5, iv (p1 &&& (2147483647 : Int32)), iv (p2 &&& (2147483647 : Int32)), iv (p3 &&& (2147483647 : Int32)), iv (p5 &&& (2147483647 : Int32)), rv b1, iv 1, .unset] [(.ref (pickA p4 x0 x1 x2)), (.ref b1)]))
  by_cases hd0 : ((p4 &&& (2147483647 : Int32)) % (3 : Int32)) = (0 : Int32)
  · rw [(show (pickA p4 x0 x1 x2) = x0 from ((if_pos hd0).trans rfl))]
    show Goes p e below QQ (T66.setTop (mkF m 85 #[iv p1, iv p2, iv p3, iv p4, iv p5, iv (p1 &&& (2147483647 : Int32)), iv (p2 &&& (2147483647 : Int32)), iv (p3 &&& (2147483647 : Int32)), iv (p5 &&& (2147483647 : Int32)), rv b1, iv 1, .unset] [(.ref x0), (.ref b1)]))
    refine Goes.on (fun t k => XS.iload X66.here hx rfl (hb hby at_85) rfl k) ?_
    show Goes p e below QQ (T66.setTop (mkF m 87 #[iv p1, iv p2, iv p3, iv p4, iv p5, iv (p1 &&& (2147483647 : Int32)), iv (p2 &&& (2147483647 : Int32)), iv (p3 &&& (2147483647 : Int32)), iv (p5 &&& (2147483647 : Int32)), rv b1, iv 1, .unset] [(.int (p5 &&& (2147483647 : Int32))), (.ref x0), (.ref b1)]))
    obtain ⟨cq67, kq67, q67a, q67b, q67c⟩ := isOf hZ e66 A1_62
    obtain ⟨_, _, ⟨T67, L67, k67, n67⟩, -, X67, ⟨Lc67, hQ67, l67, y67, z67⟩, st67⟩ := X66.virtualBack hx (y := (⟨"com/example/sober_links/soberlinks/io/LeftOutItems", "add", "(Lcom/example/sober_links/soberlinks/io/LeftOutItems$Reason;I)V"⟩ : MethodName)) (z := (⟨"com/example/sober_links/soberlinks/io/LeftOutItems", "add", "(Lcom/example/sober_links/soberlinks/io/LeftOutItems$Reason;I)V"⟩ : MethodName)) hown (mvT hZ (hw _ (List.mem_of_getElem? (i := 38) rfl))) (mvT hZ (hw _ (List.mem_of_getElem? (i := 39) rfl))) (notFace_of_selects (args := #[]) (mvT hZ (hw _ (List.mem_of_getElem? (i := 41) rfl)))) (mvT hZ (hw _ (List.mem_of_getElem? (i := 41) rfl))) (mvT hZ (hw _ (List.mem_of_getElem? (i := 40) rfl))) (by decide) (backOf (W := 0) (rm4_0 l Z a0 hw [] b1 x0 bc kc ((0 : Int32) + (p1 &&& (2147483647 : Int32))) ((0 : Int32) + (p2 &&& (2147483647 : Int32))) ((0 : Int32) + (p3 &&& (2147483647 : Int32))) (p5 &&& (2147483647 : Int32)) T53.heap n0 (Nat.le_trans Z0 K65.1) Fc_63 E_54 F_55 V_d76 g_bc ne_b1_bc ne_x0_bc) hZ (hw _ (List.mem_of_getElem? (i := 42) rfl)) (hw _ (List.mem_of_getElem? (i := 3) rfl)) (by decide) (by decide)) q67a q67c (g := (mkF m 87 #[iv p1, iv p2, iv p3, iv p4, iv p5, iv (p1 &&& (2147483647 : Int32)), iv (p2 &&& (2147483647 : Int32)), iv (p3 &&& (2147483647 : Int32)), iv (p5 &&& (2147483647 : Int32)), rv b1, iv 1, .unset] [(.int (p5 &&& (2147483647 : Int32))), (.ref x0), (.ref b1)])) rfl (by rw [hml]; rfl) (Steps.refl _) (argsL := [(.ref x0), (.int (p5 &&& (2147483647 : Int32)))]) (rest := []) (lenOf pd_3 rfl) rfl (by show 2 * 0 + _ ≤ _; exact Nat.le_of_eq rfl) (hb hby at_87) (fun _ _ => ⟨rfl, e66, (by decide : 3 + 0 ≤ _), (by decide : 7 + 0 ≤ _)⟩)
    dsimp only [Pt.U, Pt.locs, Pt.cells, Pt.slots] at X67 l67 y67 z67 st67 hQ67
    subst l67 y67 z67
    obtain ⟨rfl, M67, Kd87, V_d87⟩ := hQ67
    have N67 := Fr.app N66 M67
    refine Goes.on (fun t k => st67.trans k) ?_
    have E_68 := E_54.keep Kd87
    have F_69 := F_55.keep Kd87 (ninS ne_x0_bc nin0)
    have E_70 := E_56.keep Kd87
    have F_71 := F_57.keep Kd87 (ninS ne_x1_bc nin0)
    have E_72 := E_58.keep Kd87
    have F_73 := F_59.keep Kd87 (ninS ne_x2_bc nin0)
    have O_74 := O_60.keep Kd87 (allS g_bc all0)
    have E_75 := E_61.keep Kd87
    have A1_76 := A1_62.keep Kd87
    have Fc_77 := Fc_63.keep Kd87 (ninS ne_b1_bc nin0)
    have K79 := K65.trans Kd87 (allS (Or.inr sz_bc) all0)
    show Goes p e below QQ (T67.setTop (mkF m 90 #[iv p1, iv p2, iv p3, iv p4, iv p5, iv (p1 &&& (2147483647 : Int32)), iv (p2 &&& (2147483647 : Int32)), iv (p3 &&& (2147483647 : Int32)), iv (p5 &&& (2147483647 : Int32)), rv b1, iv 1, .unset] []))
    refine Goes.on (fun t k => XS.iload X67.here hx rfl (hb hby at_90) rfl k) ?_
    show Goes p e below QQ (T67.setTop (mkF m 92 #[iv p1, iv p2, iv p3, iv p4, iv p5, iv (p1 &&& (2147483647 : Int32)), iv (p2 &&& (2147483647 : Int32)), iv (p3 &&& (2147483647 : Int32)), iv (p5 &&& (2147483647 : Int32)), rv b1, iv 1, .unset] [(.int (p1 &&& (2147483647 : Int32)))]))
    refine Goes.on (fun t k => XS.iload X67.here hx rfl (hb hby at_92) rfl k) ?_
    show Goes p e below QQ (T67.setTop (mkF m 94 #[iv p1, iv p2, iv p3, iv p4, iv p5, iv (p1 &&& (2147483647 : Int32)), iv (p2 &&& (2147483647 : Int32)), iv (p3 &&& (2147483647 : Int32)), iv (p5 &&& (2147483647 : Int32)), rv b1, iv 1, .unset] [(.int (p2 &&& (2147483647 : Int32))), (.int (p1 &&& (2147483647 : Int32)))]))
    refine Goes.on (fun t k => XS.iadd X67.here hx rfl (hb hby at_94) rfl k) ?_
    show Goes p e below QQ (T67.setTop (mkF m 95 #[iv p1, iv p2, iv p3, iv p4, iv p5, iv (p1 &&& (2147483647 : Int32)), iv (p2 &&& (2147483647 : Int32)), iv (p3 &&& (2147483647 : Int32)), iv (p5 &&& (2147483647 : Int32)), rv b1, iv 1, .unset] [(.int ((p1 &&& (2147483647 : Int32)) + (p2 &&& (2147483647 : Int32))))]))
    refine Goes.on (fun t k => XS.iload X67.here hx rfl (hb hby at_95) rfl k) ?_
    show Goes p e below QQ (T67.setTop (mkF m 97 #[iv p1, iv p2, iv p3, iv p4, iv p5, iv (p1 &&& (2147483647 : Int32)), iv (p2 &&& (2147483647 : Int32)), iv (p3 &&& (2147483647 : Int32)), iv (p5 &&& (2147483647 : Int32)), rv b1, iv 1, .unset] [(.int (p3 &&& (2147483647 : Int32))), (.int ((p1 &&& (2147483647 : Int32)) + (p2 &&& (2147483647 : Int32))))]))
    refine Goes.on (fun t k => XS.iadd X67.here hx rfl (hb hby at_97) rfl k) ?_
    show Goes p e below QQ (T67.setTop (mkF m 98 #[iv p1, iv p2, iv p3, iv p4, iv p5, iv (p1 &&& (2147483647 : Int32)), iv (p2 &&& (2147483647 : Int32)), iv (p3 &&& (2147483647 : Int32)), iv (p5 &&& (2147483647 : Int32)), rv b1, iv 1, .unset] [(.int (((p1 &&& (2147483647 : Int32)) + (p2 &&& (2147483647 : Int32))) + (p3 &&& (2147483647 : Int32))))]))
    refine Goes.on (fun t k => XS.iload X67.here hx rfl (hb hby at_98) rfl k) ?_
    show Goes p e below QQ (T67.setTop (mkF m 100 #[iv p1, iv p2, iv p3, iv p4, iv p5, iv (p1 &&& (2147483647 : Int32)), iv (p2 &&& (2147483647 : Int32)), iv (p3 &&& (2147483647 : Int32)), iv (p5 &&& (2147483647 : Int32)), rv b1, iv 1, .unset] [(.int (p5 &&& (2147483647 : Int32))), (.int (((p1 &&& (2147483647 : Int32)) + (p2 &&& (2147483647 : Int32))) + (p3 &&& (2147483647 : Int32))))]))
    refine Goes.on (fun t k => XS.iadd X67.here hx rfl (hb hby at_100) rfl k) ?_
    show Goes p e below QQ (T67.setTop (mkF m 101 #[iv p1, iv p2, iv p3, iv p4, iv p5, iv (p1 &&& (2147483647 : Int32)), iv (p2 &&& (2147483647 : Int32)), iv (p3 &&& (2147483647 : Int32)), iv (p5 &&& (2147483647 : Int32)), rv b1, iv 1, .unset] [(.int ((((p1 &&& (2147483647 : Int32)) + (p2 &&& (2147483647 : Int32))) + (p3 &&& (2147483647 : Int32))) + (p5 &&& (2147483647 : Int32))))]))
    refine Goes.on (fun t k => XS.istore X67.here hx rfl (hb hby at_101) rfl (l' := #[iv p1, iv p2, iv p3, iv p4, iv p5, iv (p1 &&& (2147483647 : Int32)), iv (p2 &&& (2147483647 : Int32)), iv (p3 &&& (2147483647 : Int32)), iv (p5 &&& (2147483647 : Int32)), rv b1, iv 1, iv ((((p1 &&& (2147483647 : Int32)) + (p2 &&& (2147483647 : Int32))) + (p3 &&& (2147483647 : Int32))) + (p5 &&& (2147483647 : Int32)))]) rfl k) ?_
    show Goes p e below QQ (T67.setTop (mkF m 103 #[iv p1, iv p2, iv p3, iv p4, iv p5, iv (p1 &&& (2147483647 : Int32)), iv (p2 &&& (2147483647 : Int32)), iv (p3 &&& (2147483647 : Int32)), iv (p5 &&& (2147483647 : Int32)), rv b1, iv 1, iv ((((p1 &&& (2147483647 : Int32)) + (p2 &&& (2147483647 : Int32))) + (p3 &&& (2147483647 : Int32))) + (p5 &&& (2147483647 : Int32)))] []))
    refine Goes.on (fun t k => XS.iload X67.here hx rfl (hb hby at_103) rfl k) ?_
    show Goes p e below QQ (T67.setTop (mkF m 105 #[iv p1, iv p2, iv p3, iv p4, iv p5, iv (p1 &&& (2147483647 : Int32)), iv (p2 &&& (2147483647 : Int32)), iv (p3 &&& (2147483647 : Int32)), iv (p5 &&& (2147483647 : Int32)), rv b1, iv 1, iv ((((p1 &&& (2147483647 : Int32)) + (p2 &&& (2147483647 : Int32))) + (p3 &&& (2147483647 : Int32))) + (p5 &&& (2147483647 : Int32)))] [(.int 1)]))
    refine Goes.on (fun t k => XS.ifNo X67.here hx rfl (hb hby at_105) rfl ((if0 _ _).trans (feq (by decide)).1) k) ?_
    show Goes p e below QQ (T67.setTop (mkF m 108 #[iv p1, iv p2, iv p3, iv p4, iv p5, iv (p1 &&& (2147483647 : Int32)), iv (p2 &&& (2147483647 : Int32)), iv (p3 &&& (2147483647 : Int32)), iv (p5 &&& (2147483647 : Int32)), rv b1, iv 1, iv ((((p1 &&& (2147483647 : Int32)) + (p2 &&& (2147483647 : Int32))) + (p3 &&& (2147483647 : Int32))) + (p5 &&& (2147483647 : Int32)))] []))
    refine Goes.on (fun t k => XS.aload X67.here hx rfl (hb hby at_108) rfl rfl k) ?_
    show Goes p e below QQ (T67.setTop (mkF m 110 #[iv p1, iv p2, iv p3, iv p4, iv p5, iv (p1 &&& (2147483647 : Int32)), iv (p2 &&& (2147483647 : Int32)), iv (p3 &&& (2147483647 : Int32)), iv (p5 &&& (2147483647 : Int32)), rv b1, iv 1, iv ((((p1 &&& (2147483647 : Int32)) + (p2 &&& (2147483647 : Int32))) + (p3 &&& (2147483647 : Int32))) + (p5 &&& (2147483647 : Int32)))] [(.ref b1)]))
    obtain ⟨cq80, kq80, q80a, q80b, q80c⟩ := isOf hZ rfl A1_76
    obtain ⟨_, _, ⟨T80, L80, k80, n80⟩, -, X80, ⟨Lc80, hQ80, l80, y80, z80⟩, st80⟩ := X67.virtualBack hx (y := (⟨"com/example/sober_links/soberlinks/io/LeftOutItems", "total", "()I"⟩ : MethodName)) (z := (⟨"com/example/sober_links/soberlinks/io/LeftOutItems", "total", "()I"⟩ : MethodName)) hown (mvT hZ (hw _ (List.mem_of_getElem? (i := 32) rfl))) (mvT hZ (hw _ (List.mem_of_getElem? (i := 33) rfl))) (notFace_of_selects (args := #[]) (mvT hZ (hw _ (List.mem_of_getElem? (i := 35) rfl)))) (mvT hZ (hw _ (List.mem_of_getElem? (i := 35) rfl))) (mvT hZ (hw _ (List.mem_of_getElem? (i := 34) rfl))) (by decide) (backOf (W := 0) (rm5 l Z a0 hw [] b1 bc kc (((0 : Int32) + (p1 &&& (2147483647 : Int32))) + (p5 &&& (2147483647 : Int32))) ((0 : Int32) + (p2 &&& (2147483647 : Int32))) ((0 : Int32) + (p3 &&& (2147483647 : Int32))) T67.heap n0 (Nat.le_trans Z0 K79.1) Fc_77 V_d87) hZ (hw _ (List.mem_of_getElem? (i := 36) rfl)) (hw _ (List.mem_of_getElem? (i := 3) rfl)) (by decide) (by decide)) q80a q80c (g := (mkF m 110 #[iv p1, iv p2, iv p3, iv p4, iv p5, iv (p1 &&& (2147483647 : Int32)), iv (p2 &&& (2147483647 : Int32)), iv (p3 &&& (2147483647 : Int32)), iv (p5 &&& (2147483647 : Int32)), rv b1, iv 1, iv ((((p1 &&& (2147483647 : Int32)) + (p2 &&& (2147483647 : Int32))) + (p3 &&& (2147483647 : Int32))) + (p5 &&& (2147483647 : Int32)))] [(.ref b1)])) rfl (by rw [hml]; rfl) (Steps.refl _) (argsL := []) (rest := []) (lenOf pd_1 rfl) rfl (by show 2 * 0 + _ ≤ _; exact Nat.le_of_eq rfl) (hb hby at_110) (fun _ _ => ⟨rfl, rfl, (by decide : 3 + 0 ≤ _), (by decide : 7 + 0 ≤ _)⟩)
    dsimp only [Pt.U, Pt.locs, Pt.cells, Pt.slots] at X80 l80 y80 z80 st80 hQ80
    subst l80 y80 z80
    obtain ⟨rfl, M80, e80⟩ := hQ80
    have N80 := Fr.app N67 M80
    refine Goes.on (fun t k => st80.trans k) ?_
    show Goes p e below QQ (T80.setTop (mkF m 113 #[iv p1, iv p2, iv p3, iv p4, iv p5, iv (p1 &&& (2147483647 : Int32)), iv (p2 &&& (2147483647 : Int32)), iv (p3 &&& (2147483647 : Int32)), iv (p5 &&& (2147483647 : Int32)), rv b1, iv 1, iv ((((p1 &&& (2147483647 : Int32)) + (p2 &&& (2147483647 : Int32))) + (p3 &&& (2147483647 : Int32))) + (p5 &&& (2147483647 : Int32)))] [(.int (sum3 (((0 : Int32) + (p1 &&& (2147483647 : Int32))) + (p5 &&& (2147483647 : Int32))) ((0 : Int32) + (p2 &&& (2147483647 : Int32))) ((0 : Int32) + (p3 &&& (2147483647 : Int32)))))]))
    refine Goes.on (fun t k => XS.iload X80.here hx rfl (hb hby at_113) rfl k) ?_
    show Goes p e below QQ (T80.setTop (mkF m 115 #[iv p1, iv p2, iv p3, iv p4, iv p5, iv (p1 &&& (2147483647 : Int32)), iv (p2 &&& (2147483647 : Int32)), iv (p3 &&& (2147483647 : Int32)), iv (p5 &&& (2147483647 : Int32)), rv b1, iv 1, iv ((((p1 &&& (2147483647 : Int32)) + (p2 &&& (2147483647 : Int32))) + (p3 &&& (2147483647 : Int32))) + (p5 &&& (2147483647 : Int32)))] [(.int ((((p1 &&& (2147483647 : Int32)) + (p2 &&& (2147483647 : Int32))) + (p3 &&& (2147483647 : Int32))) + (p5 &&& (2147483647 : Int32)))), (.int (sum3 (((0 : Int32) + (p1 &&& (2147483647 : Int32))) + (p5 &&& (2147483647 : Int32))) ((0 : Int32) + (p2 &&& (2147483647 : Int32))) ((0 : Int32) + (p3 &&& (2147483647 : Int32)))))]))
    by_cases hb81 : (sum3 (((0 : Int32) + (p1 &&& (2147483647 : Int32))) + (p5 &&& (2147483647 : Int32))) ((0 : Int32) + (p2 &&& (2147483647 : Int32))) ((0 : Int32) + (p3 &&& (2147483647 : Int32)))) = ((((p1 &&& (2147483647 : Int32)) + (p2 &&& (2147483647 : Int32))) + (p3 &&& (2147483647 : Int32))) + (p5 &&& (2147483647 : Int32)))
    · refine Goes.on (fun t k => XS.icmpNo X80.here hx rfl (hb hby at_115) rfl (teq hb81).2 k) ?_
      show Goes p e below QQ (T80.setTop (mkF m 118 #[iv p1, iv p2, iv p3, iv p4, iv p5, iv (p1 &&& (2147483647 : Int32)), iv (p2 &&& (2147483647 : Int32)), iv (p3 &&& (2147483647 : Int32)), iv (p5 &&& (2147483647 : Int32)), rv b1, iv 1, iv ((((p1 &&& (2147483647 : Int32)) + (p2 &&& (2147483647 : Int32))) + (p3 &&& (2147483647 : Int32))) + (p5 &&& (2147483647 : Int32)))] []))
      refine Goes.on (fun t k => XS.iconst X80.here hx rfl (hb hby at_118) k) ?_
      show Goes p e below QQ (T80.setTop (mkF m 119 #[iv p1, iv p2, iv p3, iv p4, iv p5, iv (p1 &&& (2147483647 : Int32)), iv (p2 &&& (2147483647 : Int32)), iv (p3 &&& (2147483647 : Int32)), iv (p5 &&& (2147483647 : Int32)), rv b1, iv 1, iv ((((p1 &&& (2147483647 : Int32)) + (p2 &&& (2147483647 : Int32))) + (p3 &&& (2147483647 : Int32))) + (p5 &&& (2147483647 : Int32)))] [(.int 1)]))
      refine Goes.on (fun t k => XS.goto X80.here hx rfl (pc0 := 119) (pc' := 123) rfl (hb hby at_119) (by decide) (by decide) k) ?_
      show Goes p e below QQ (T80.setTop (mkF m 123 #[iv p1, iv p2, iv p3, iv p4, iv p5, iv (p1 &&& (2147483647 : Int32)), iv (p2 &&& (2147483647 : Int32)), iv (p3 &&& (2147483647 : Int32)), iv (p5 &&& (2147483647 : Int32)), rv b1, iv 1, iv ((((p1 &&& (2147483647 : Int32)) + (p2 &&& (2147483647 : Int32))) + (p3 &&& (2147483647 : Int32))) + (p5 &&& (2147483647 : Int32)))] [(.int 1)]))
      exact Goes.rN X80 hx (t := .boolean) hret (by simp) hlk (hb hby at_123) hQQ ⟨rfl, N80⟩ (by decide) (by decide)
    · refine Goes.on (fun t k => XS.icmpYes X80.here hx rfl (pc0 := 115) (pc' := 122) rfl (hb hby at_115) rfl (feq hb81).2 (by decide) (by decide) k) ?_
      show Goes p e below QQ (T80.setTop (mkF m 122 #[iv p1, iv p2, iv p3, iv p4, iv p5, iv (p1 &&& (2147483647 : Int32)), iv (p2 &&& (2147483647 : Int32)), iv (p3 &&& (2147483647 : Int32)), iv (p5 &&& (2147483647 : Int32)), rv b1, iv 1, iv ((((p1 &&& (2147483647 : Int32)) + (p2 &&& (2147483647 : Int32))) + (p3 &&& (2147483647 : Int32))) + (p5 &&& (2147483647 : Int32)))] []))
      refine Goes.on (fun t k => XS.iconst X80.here hx rfl (hb hby at_122) k) ?_
      show Goes p e below QQ (T80.setTop (mkF m 123 #[iv p1, iv p2, iv p3, iv p4, iv p5, iv (p1 &&& (2147483647 : Int32)), iv (p2 &&& (2147483647 : Int32)), iv (p3 &&& (2147483647 : Int32)), iv (p5 &&& (2147483647 : Int32)), rv b1, iv 1, iv ((((p1 &&& (2147483647 : Int32)) + (p2 &&& (2147483647 : Int32))) + (p3 &&& (2147483647 : Int32))) + (p5 &&& (2147483647 : Int32)))] [(.int 0)]))
      exact absurd ((((if_pos hd0).trans ((if_neg hb81).trans rfl)) : lawF p1 p2 p3 p4 p5 = (0 : Int32)).symm.trans (lawT p1 p2 p3 p4 p5)) (by decide)
  · by_cases hd1 : ((p4 &&& (2147483647 : Int32)) % (3 : Int32)) = (1 : Int32)
    · rw [(show (pickA p4 x0 x1 x2) = x1 from ((if_neg hd0).trans ((if_pos hd1).trans rfl)))]
      show Goes p e below QQ (T66.setTop (mkF m 85 #[iv p1, iv p2, iv p3, iv p4, iv p5, iv (p1 &&& (2147483647 : Int32)), iv (p2 &&& (2147483647 : Int32)), iv (p3 &&& (2147483647 : Int32)), iv (p5 &&& (2147483647 : Int32)), rv b1, iv 1, .unset] [(.ref x1), (.ref b1)]))
      refine Goes.on (fun t k => XS.iload X66.here hx rfl (hb hby at_85) rfl k) ?_
      show Goes p e below QQ (T66.setTop (mkF m 87 #[iv p1, iv p2, iv p3, iv p4, iv p5, iv (p1 &&& (2147483647 : Int32)), iv (p2 &&& (2147483647 : Int32)), iv (p3 &&& (2147483647 : Int32)), iv (p5 &&& (2147483647 : Int32)), rv b1, iv 1, .unset] [(.int (p5 &&& (2147483647 : Int32))), (.ref x1), (.ref b1)]))
      obtain ⟨cq82, kq82, q82a, q82b, q82c⟩ := isOf hZ e66 A1_62
      obtain ⟨_, _, ⟨T82, L82, k82, n82⟩, -, X82, ⟨Lc82, hQ82, l82, y82, z82⟩, st82⟩ := X66.virtualBack hx (y := (⟨"com/example/sober_links/soberlinks/io/LeftOutItems", "add", "(Lcom/example/sober_links/soberlinks/io/LeftOutItems$Reason;I)V"⟩ : MethodName)) (z := (⟨"com/example/sober_links/soberlinks/io/LeftOutItems", "add", "(Lcom/example/sober_links/soberlinks/io/LeftOutItems$Reason;I)V"⟩ : MethodName)) hown (mvT hZ (hw _ (List.mem_of_getElem? (i := 38) rfl))) (mvT hZ (hw _ (List.mem_of_getElem? (i := 39) rfl))) (notFace_of_selects (args := #[]) (mvT hZ (hw _ (List.mem_of_getElem? (i := 41) rfl)))) (mvT hZ (hw _ (List.mem_of_getElem? (i := 41) rfl))) (mvT hZ (hw _ (List.mem_of_getElem? (i := 40) rfl))) (by decide) (backOf (W := 0) (rm4_1 l Z a0 hw [] b1 x1 bc kc ((0 : Int32) + (p1 &&& (2147483647 : Int32))) ((0 : Int32) + (p2 &&& (2147483647 : Int32))) ((0 : Int32) + (p3 &&& (2147483647 : Int32))) (p5 &&& (2147483647 : Int32)) T53.heap n0 (Nat.le_trans Z0 K65.1) Fc_63 E_56 F_57 V_d76 g_bc ne_b1_bc ne_x1_bc) hZ (hw _ (List.mem_of_getElem? (i := 42) rfl)) (hw _ (List.mem_of_getElem? (i := 3) rfl)) (by decide) (by decide)) q82a q82c (g := (mkF m 87 #[iv p1, iv p2, iv p3, iv p4, iv p5, iv (p1 &&& (2147483647 : Int32)), iv (p2 &&& (2147483647 : Int32)), iv (p3 &&& (2147483647 : Int32)), iv (p5 &&& (2147483647 : Int32)), rv b1, iv 1, .unset] [(.int (p5 &&& (2147483647 : Int32))), (.ref x1), (.ref b1)])) rfl (by rw [hml]; rfl) (Steps.refl _) (argsL := [(.ref x1), (.int (p5 &&& (2147483647 : Int32)))]) (rest := []) (lenOf pd_3 rfl) rfl (by show 2 * 0 + _ ≤ _; exact Nat.le_of_eq rfl) (hb hby at_87) (fun _ _ => ⟨rfl, e66, (by decide : 3 + 0 ≤ _), (by decide : 7 + 0 ≤ _)⟩)
      dsimp only [Pt.U, Pt.locs, Pt.cells, Pt.slots] at X82 l82 y82 z82 st82 hQ82
      subst l82 y82 z82
      obtain ⟨rfl, M82, Kd87, V_d87⟩ := hQ82
      have N82 := Fr.app N66 M82
      refine Goes.on (fun t k => st82.trans k) ?_
      have E_83 := E_54.keep Kd87
      have F_84 := F_55.keep Kd87 (ninS ne_x0_bc nin0)
      have E_85 := E_56.keep Kd87
      have F_86 := F_57.keep Kd87 (ninS ne_x1_bc nin0)
      have E_87 := E_58.keep Kd87
      have F_88 := F_59.keep Kd87 (ninS ne_x2_bc nin0)
      have O_89 := O_60.keep Kd87 (allS g_bc all0)
      have E_90 := E_61.keep Kd87
      have A1_91 := A1_62.keep Kd87
      have Fc_92 := Fc_63.keep Kd87 (ninS ne_b1_bc nin0)
      have K94 := K65.trans Kd87 (allS (Or.inr sz_bc) all0)
      show Goes p e below QQ (T82.setTop (mkF m 90 #[iv p1, iv p2, iv p3, iv p4, iv p5, iv (p1 &&& (2147483647 : Int32)), iv (p2 &&& (2147483647 : Int32)), iv (p3 &&& (2147483647 : Int32)), iv (p5 &&& (2147483647 : Int32)), rv b1, iv 1, .unset] []))
      refine Goes.on (fun t k => XS.iload X82.here hx rfl (hb hby at_90) rfl k) ?_
      show Goes p e below QQ (T82.setTop (mkF m 92 #[iv p1, iv p2, iv p3, iv p4, iv p5, iv (p1 &&& (2147483647 : Int32)), iv (p2 &&& (2147483647 : Int32)), iv (p3 &&& (2147483647 : Int32)), iv (p5 &&& (2147483647 : Int32)), rv b1, iv 1, .unset] [(.int (p1 &&& (2147483647 : Int32)))]))
      refine Goes.on (fun t k => XS.iload X82.here hx rfl (hb hby at_92) rfl k) ?_
      show Goes p e below QQ (T82.setTop (mkF m 94 #[iv p1, iv p2, iv p3, iv p4, iv p5, iv (p1 &&& (2147483647 : Int32)), iv (p2 &&& (2147483647 : Int32)), iv (p3 &&& (2147483647 : Int32)), iv (p5 &&& (2147483647 : Int32)), rv b1, iv 1, .unset] [(.int (p2 &&& (2147483647 : Int32))), (.int (p1 &&& (2147483647 : Int32)))]))
      refine Goes.on (fun t k => XS.iadd X82.here hx rfl (hb hby at_94) rfl k) ?_
      show Goes p e below QQ (T82.setTop (mkF m 95 #[iv p1, iv p2, iv p3, iv p4, iv p5, iv (p1 &&& (2147483647 : Int32)), iv (p2 &&& (2147483647 : Int32)), iv (p3 &&& (2147483647 : Int32)), iv (p5 &&& (2147483647 : Int32)), rv b1, iv 1, .unset] [(.int ((p1 &&& (2147483647 : Int32)) + (p2 &&& (2147483647 : Int32))))]))
      refine Goes.on (fun t k => XS.iload X82.here hx rfl (hb hby at_95) rfl k) ?_
      show Goes p e below QQ (T82.setTop (mkF m 97 #[iv p1, iv p2, iv p3, iv p4, iv p5, iv (p1 &&& (2147483647 : Int32)), iv (p2 &&& (2147483647 : Int32)), iv (p3 &&& (2147483647 : Int32)), iv (p5 &&& (2147483647 : Int32)), rv b1, iv 1, .unset] [(.int (p3 &&& (2147483647 : Int32))), (.int ((p1 &&& (2147483647 : Int32)) + (p2 &&& (2147483647 : Int32))))]))
      refine Goes.on (fun t k => XS.iadd X82.here hx rfl (hb hby at_97) rfl k) ?_
      show Goes p e below QQ (T82.setTop (mkF m 98 #[iv p1, iv p2, iv p3, iv p4, iv p5, iv (p1 &&& (2147483647 : Int32)), iv (p2 &&& (2147483647 : Int32)), iv (p3 &&& (2147483647 : Int32)), iv (p5 &&& (2147483647 : Int32)), rv b1, iv 1, .unset] [(.int (((p1 &&& (2147483647 : Int32)) + (p2 &&& (2147483647 : Int32))) + (p3 &&& (2147483647 : Int32))))]))
      refine Goes.on (fun t k => XS.iload X82.here hx rfl (hb hby at_98) rfl k) ?_
      show Goes p e below QQ (T82.setTop (mkF m 100 #[iv p1, iv p2, iv p3, iv p4, iv p5, iv (p1 &&& (2147483647 : Int32)), iv (p2 &&& (2147483647 : Int32)), iv (p3 &&& (2147483647 : Int32)), iv (p5 &&& (2147483647 : Int32)), rv b1, iv 1, .unset] [(.int (p5 &&& (2147483647 : Int32))), (.int (((p1 &&& (2147483647 : Int32)) + (p2 &&& (2147483647 : Int32))) + (p3 &&& (2147483647 : Int32))))]))
      refine Goes.on (fun t k => XS.iadd X82.here hx rfl (hb hby at_100) rfl k) ?_
      show Goes p e below QQ (T82.setTop (mkF m 101 #[iv p1, iv p2, iv p3, iv p4, iv p5, iv (p1 &&& (2147483647 : Int32)), iv (p2 &&& (2147483647 : Int32)), iv (p3 &&& (2147483647 : Int32)), iv (p5 &&& (2147483647 : Int32)), rv b1, iv 1, .unset] [(.int ((((p1 &&& (2147483647 : Int32)) + (p2 &&& (2147483647 : Int32))) + (p3 &&& (2147483647 : Int32))) + (p5 &&& (2147483647 : Int32))))]))
      refine Goes.on (fun t k => XS.istore X82.here hx rfl (hb hby at_101) rfl (l' := #[iv p1, iv p2, iv p3, iv p4, iv p5, iv (p1 &&& (2147483647 : Int32)), iv (p2 &&& (2147483647 : Int32)), iv (p3 &&& (2147483647 : Int32)), iv (p5 &&& (2147483647 : Int32)), rv b1, iv 1, iv ((((p1 &&& (2147483647 : Int32)) + (p2 &&& (2147483647 : Int32))) + (p3 &&& (2147483647 : Int32))) + (p5 &&& (2147483647 : Int32)))]) rfl k) ?_
      show Goes p e below QQ (T82.setTop (mkF m 103 #[iv p1, iv p2, iv p3, iv p4, iv p5, iv (p1 &&& (2147483647 : Int32)), iv (p2 &&& (2147483647 : Int32)), iv (p3 &&& (2147483647 : Int32)), iv (p5 &&& (2147483647 : Int32)), rv b1, iv 1, iv ((((p1 &&& (2147483647 : Int32)) + (p2 &&& (2147483647 : Int32))) + (p3 &&& (2147483647 : Int32))) + (p5 &&& (2147483647 : Int32)))] []))
      refine Goes.on (fun t k => XS.iload X82.here hx rfl (hb hby at_103) rfl k) ?_
      show Goes p e below QQ (T82.setTop (mkF m 105 #[iv p1, iv p2, iv p3, iv p4, iv p5, iv (p1 &&& (2147483647 : Int32)), iv (p2 &&& (2147483647 : Int32)), iv (p3 &&& (2147483647 : Int32)), iv (p5 &&& (2147483647 : Int32)), rv b1, iv 1, iv ((((p1 &&& (2147483647 : Int32)) + (p2 &&& (2147483647 : Int32))) + (p3 &&& (2147483647 : Int32))) + (p5 &&& (2147483647 : Int32)))] [(.int 1)]))
      refine Goes.on (fun t k => XS.ifNo X82.here hx rfl (hb hby at_105) rfl ((if0 _ _).trans (feq (by decide)).1) k) ?_
      show Goes p e below QQ (T82.setTop (mkF m 108 #[iv p1, iv p2, iv p3, iv p4, iv p5, iv (p1 &&& (2147483647 : Int32)), iv (p2 &&& (2147483647 : Int32)), iv (p3 &&& (2147483647 : Int32)), iv (p5 &&& (2147483647 : Int32)), rv b1, iv 1, iv ((((p1 &&& (2147483647 : Int32)) + (p2 &&& (2147483647 : Int32))) + (p3 &&& (2147483647 : Int32))) + (p5 &&& (2147483647 : Int32)))] []))
      refine Goes.on (fun t k => XS.aload X82.here hx rfl (hb hby at_108) rfl rfl k) ?_
      show Goes p e below QQ (T82.setTop (mkF m 110 #[iv p1, iv p2, iv p3, iv p4, iv p5, iv (p1 &&& (2147483647 : Int32)), iv (p2 &&& (2147483647 : Int32)), iv (p3 &&& (2147483647 : Int32)), iv (p5 &&& (2147483647 : Int32)), rv b1, iv 1, iv ((((p1 &&& (2147483647 : Int32)) + (p2 &&& (2147483647 : Int32))) + (p3 &&& (2147483647 : Int32))) + (p5 &&& (2147483647 : Int32)))] [(.ref b1)]))
      obtain ⟨cq95, kq95, q95a, q95b, q95c⟩ := isOf hZ rfl A1_91
      obtain ⟨_, _, ⟨T95, L95, k95, n95⟩, -, X95, ⟨Lc95, hQ95, l95, y95, z95⟩, st95⟩ := X82.virtualBack hx (y := (⟨"com/example/sober_links/soberlinks/io/LeftOutItems", "total", "()I"⟩ : MethodName)) (z := (⟨"com/example/sober_links/soberlinks/io/LeftOutItems", "total", "()I"⟩ : MethodName)) hown (mvT hZ (hw _ (List.mem_of_getElem? (i := 32) rfl))) (mvT hZ (hw _ (List.mem_of_getElem? (i := 33) rfl))) (notFace_of_selects (args := #[]) (mvT hZ (hw _ (List.mem_of_getElem? (i := 35) rfl)))) (mvT hZ (hw _ (List.mem_of_getElem? (i := 35) rfl))) (mvT hZ (hw _ (List.mem_of_getElem? (i := 34) rfl))) (by decide) (backOf (W := 0) (rm5 l Z a0 hw [] b1 bc kc ((0 : Int32) + (p1 &&& (2147483647 : Int32))) (((0 : Int32) + (p2 &&& (2147483647 : Int32))) + (p5 &&& (2147483647 : Int32))) ((0 : Int32) + (p3 &&& (2147483647 : Int32))) T82.heap n0 (Nat.le_trans Z0 K94.1) Fc_92 V_d87) hZ (hw _ (List.mem_of_getElem? (i := 36) rfl)) (hw _ (List.mem_of_getElem? (i := 3) rfl)) (by decide) (by decide)) q95a q95c (g := (mkF m 110 #[iv p1, iv p2, iv p3, iv p4, iv p5, iv (p1 &&& (2147483647 : Int32)), iv (p2 &&& (2147483647 : Int32)), iv (p3 &&& (2147483647 : Int32)), iv (p5 &&& (2147483647 : Int32)), rv b1, iv 1, iv ((((p1 &&& (2147483647 : Int32)) + (p2 &&& (2147483647 : Int32))) + (p3 &&& (2147483647 : Int32))) + (p5 &&& (2147483647 : Int32)))] [(.ref b1)])) rfl (by rw [hml]; rfl) (Steps.refl _) (argsL := []) (rest := []) (lenOf pd_1 rfl) rfl (by show 2 * 0 + _ ≤ _; exact Nat.le_of_eq rfl) (hb hby at_110) (fun _ _ => ⟨rfl, rfl, (by decide : 3 + 0 ≤ _), (by decide : 7 + 0 ≤ _)⟩)
      dsimp only [Pt.U, Pt.locs, Pt.cells, Pt.slots] at X95 l95 y95 z95 st95 hQ95
      subst l95 y95 z95
      obtain ⟨rfl, M95, e95⟩ := hQ95
      have N95 := Fr.app N82 M95
      refine Goes.on (fun t k => st95.trans k) ?_
      show Goes p e below QQ (T95.setTop (mkF m 113 #[iv p1, iv p2, iv p3, iv p4, iv p5, iv (p1 &&& (2147483647 : Int32)), iv (p2 &&& (2147483647 : Int32)), iv (p3 &&& (2147483647 : Int32)), iv (p5 &&& (2147483647 : Int32)), rv b1, iv 1, iv ((((p1 &&& (2147483647 : Int32)) + (p2 &&& (2147483647 : Int32))) + (p3 &&& (2147483647 : Int32))) + (p5 &&& (2147483647 : Int32)))] [(.int (sum3 ((0 : Int32) + (p1 &&& (2147483647 : Int32))) (((0 : Int32) + (p2 &&& (2147483647 : Int32))) + (p5 &&& (2147483647 : Int32))) ((0 : Int32) + (p3 &&& (2147483647 : Int32)))))]))
      refine Goes.on (fun t k => XS.iload X95.here hx rfl (hb hby at_113) rfl k) ?_
      show Goes p e below QQ (T95.setTop (mkF m 115 #[iv p1, iv p2, iv p3, iv p4, iv p5, iv (p1 &&& (2147483647 : Int32)), iv (p2 &&& (2147483647 : Int32)), iv (p3 &&& (2147483647 : Int32)), iv (p5 &&& (2147483647 : Int32)), rv b1, iv 1, iv ((((p1 &&& (2147483647 : Int32)) + (p2 &&& (2147483647 : Int32))) + (p3 &&& (2147483647 : Int32))) + (p5 &&& (2147483647 : Int32)))] [(.int ((((p1 &&& (2147483647 : Int32)) + (p2 &&& (2147483647 : Int32))) + (p3 &&& (2147483647 : Int32))) + (p5 &&& (2147483647 : Int32)))), (.int (sum3 ((0 : Int32) + (p1 &&& (2147483647 : Int32))) (((0 : Int32) + (p2 &&& (2147483647 : Int32))) + (p5 &&& (2147483647 : Int32))) ((0 : Int32) + (p3 &&& (2147483647 : Int32)))))]))
      by_cases hb96 : (sum3 ((0 : Int32) + (p1 &&& (2147483647 : Int32))) (((0 : Int32) + (p2 &&& (2147483647 : Int32))) + (p5 &&& (2147483647 : Int32))) ((0 : Int32) + (p3 &&& (2147483647 : Int32)))) = ((((p1 &&& (2147483647 : Int32)) + (p2 &&& (2147483647 : Int32))) + (p3 &&& (2147483647 : Int32))) + (p5 &&& (2147483647 : Int32)))
      · refine Goes.on (fun t k => XS.icmpNo X95.here hx rfl (hb hby at_115) rfl (teq hb96).2 k) ?_
        show Goes p e below QQ (T95.setTop (mkF m 118 #[iv p1, iv p2, iv p3, iv p4, iv p5, iv (p1 &&& (2147483647 : Int32)), iv (p2 &&& (2147483647 : Int32)), iv (p3 &&& (2147483647 : Int32)), iv (p5 &&& (2147483647 : Int32)), rv b1, iv 1, iv ((((p1 &&& (2147483647 : Int32)) + (p2 &&& (2147483647 : Int32))) + (p3 &&& (2147483647 : Int32))) + (p5 &&& (2147483647 : Int32)))] []))
        refine Goes.on (fun t k => XS.iconst X95.here hx rfl (hb hby at_118) k) ?_
        show Goes p e below QQ (T95.setTop (mkF m 119 #[iv p1, iv p2, iv p3, iv p4, iv p5, iv (p1 &&& (2147483647 : Int32)), iv (p2 &&& (2147483647 : Int32)), iv (p3 &&& (2147483647 : Int32)), iv (p5 &&& (2147483647 : Int32)), rv b1, iv 1, iv ((((p1 &&& (2147483647 : Int32)) + (p2 &&& (2147483647 : Int32))) + (p3 &&& (2147483647 : Int32))) + (p5 &&& (2147483647 : Int32)))] [(.int 1)]))
        refine Goes.on (fun t k => XS.goto X95.here hx rfl (pc0 := 119) (pc' := 123) rfl (hb hby at_119) (by decide) (by decide) k) ?_
        show Goes p e below QQ (T95.setTop (mkF m 123 #[iv p1, iv p2, iv p3, iv p4, iv p5, iv (p1 &&& (2147483647 : Int32)), iv (p2 &&& (2147483647 : Int32)), iv (p3 &&& (2147483647 : Int32)), iv (p5 &&& (2147483647 : Int32)), rv b1, iv 1, iv ((((p1 &&& (2147483647 : Int32)) + (p2 &&& (2147483647 : Int32))) + (p3 &&& (2147483647 : Int32))) + (p5 &&& (2147483647 : Int32)))] [(.int 1)]))
        exact Goes.rN X95 hx (t := .boolean) hret (by simp) hlk (hb hby at_123) hQQ ⟨rfl, N95⟩ (by decide) (by decide)
      · refine Goes.on (fun t k => XS.icmpYes X95.here hx rfl (pc0 := 115) (pc' := 122) rfl (hb hby at_115) rfl (feq hb96).2 (by decide) (by decide) k) ?_
        show Goes p e below QQ (T95.setTop (mkF m 122 #[iv p1, iv p2, iv p3, iv p4, iv p5, iv (p1 &&& (2147483647 : Int32)), iv (p2 &&& (2147483647 : Int32)), iv (p3 &&& (2147483647 : Int32)), iv (p5 &&& (2147483647 : Int32)), rv b1, iv 1, iv ((((p1 &&& (2147483647 : Int32)) + (p2 &&& (2147483647 : Int32))) + (p3 &&& (2147483647 : Int32))) + (p5 &&& (2147483647 : Int32)))] []))
        refine Goes.on (fun t k => XS.iconst X95.here hx rfl (hb hby at_122) k) ?_
        show Goes p e below QQ (T95.setTop (mkF m 123 #[iv p1, iv p2, iv p3, iv p4, iv p5, iv (p1 &&& (2147483647 : Int32)), iv (p2 &&& (2147483647 : Int32)), iv (p3 &&& (2147483647 : Int32)), iv (p5 &&& (2147483647 : Int32)), rv b1, iv 1, iv ((((p1 &&& (2147483647 : Int32)) + (p2 &&& (2147483647 : Int32))) + (p3 &&& (2147483647 : Int32))) + (p5 &&& (2147483647 : Int32)))] [(.int 0)]))
        exact absurd ((((if_neg hd0).trans ((if_pos hd1).trans ((if_neg hb96).trans rfl))) : lawF p1 p2 p3 p4 p5 = (0 : Int32)).symm.trans (lawT p1 p2 p3 p4 p5)) (by decide)
    · rw [(show (pickA p4 x0 x1 x2) = x2 from ((if_neg hd0).trans ((if_neg hd1).trans rfl)))]
      show Goes p e below QQ (T66.setTop (mkF m 85 #[iv p1, iv p2, iv p3, iv p4, iv p5, iv (p1 &&& (2147483647 : Int32)), iv (p2 &&& (2147483647 : Int32)), iv (p3 &&& (2147483647 : Int32)), iv (p5 &&& (2147483647 : Int32)), rv b1, iv 1, .unset] [(.ref x2), (.ref b1)]))
      refine Goes.on (fun t k => XS.iload X66.here hx rfl (hb hby at_85) rfl k) ?_
      show Goes p e below QQ (T66.setTop (mkF m 87 #[iv p1, iv p2, iv p3, iv p4, iv p5, iv (p1 &&& (2147483647 : Int32)), iv (p2 &&& (2147483647 : Int32)), iv (p3 &&& (2147483647 : Int32)), iv (p5 &&& (2147483647 : Int32)), rv b1, iv 1, .unset] [(.int (p5 &&& (2147483647 : Int32))), (.ref x2), (.ref b1)]))
      obtain ⟨cq97, kq97, q97a, q97b, q97c⟩ := isOf hZ e66 A1_62
      obtain ⟨_, _, ⟨T97, L97, k97, n97⟩, -, X97, ⟨Lc97, hQ97, l97, y97, z97⟩, st97⟩ := X66.virtualBack hx (y := (⟨"com/example/sober_links/soberlinks/io/LeftOutItems", "add", "(Lcom/example/sober_links/soberlinks/io/LeftOutItems$Reason;I)V"⟩ : MethodName)) (z := (⟨"com/example/sober_links/soberlinks/io/LeftOutItems", "add", "(Lcom/example/sober_links/soberlinks/io/LeftOutItems$Reason;I)V"⟩ : MethodName)) hown (mvT hZ (hw _ (List.mem_of_getElem? (i := 38) rfl))) (mvT hZ (hw _ (List.mem_of_getElem? (i := 39) rfl))) (notFace_of_selects (args := #[]) (mvT hZ (hw _ (List.mem_of_getElem? (i := 41) rfl)))) (mvT hZ (hw _ (List.mem_of_getElem? (i := 41) rfl))) (mvT hZ (hw _ (List.mem_of_getElem? (i := 40) rfl))) (by decide) (backOf (W := 0) (rm4_2 l Z a0 hw [] b1 x2 bc kc ((0 : Int32) + (p1 &&& (2147483647 : Int32))) ((0 : Int32) + (p2 &&& (2147483647 : Int32))) ((0 : Int32) + (p3 &&& (2147483647 : Int32))) (p5 &&& (2147483647 : Int32)) T53.heap n0 (Nat.le_trans Z0 K65.1) Fc_63 E_58 F_59 V_d76 g_bc ne_b1_bc ne_x2_bc) hZ (hw _ (List.mem_of_getElem? (i := 42) rfl)) (hw _ (List.mem_of_getElem? (i := 3) rfl)) (by decide) (by decide)) q97a q97c (g := (mkF m 87 #[iv p1, iv p2, iv p3, iv p4, iv p5, iv (p1 &&& (2147483647 : Int32)), iv (p2 &&& (2147483647 : Int32)), iv (p3 &&& (2147483647 : Int32)), iv (p5 &&& (2147483647 : Int32)), rv b1, iv 1, .unset] [(.int (p5 &&& (2147483647 : Int32))), (.ref x2), (.ref b1)])) rfl (by rw [hml]; rfl) (Steps.refl _) (argsL := [(.ref x2), (.int (p5 &&& (2147483647 : Int32)))]) (rest := []) (lenOf pd_3 rfl) rfl (by show 2 * 0 + _ ≤ _; exact Nat.le_of_eq rfl) (hb hby at_87) (fun _ _ => ⟨rfl, e66, (by decide : 3 + 0 ≤ _), (by decide : 7 + 0 ≤ _)⟩)
      dsimp only [Pt.U, Pt.locs, Pt.cells, Pt.slots] at X97 l97 y97 z97 st97 hQ97
      subst l97 y97 z97
      obtain ⟨rfl, M97, Kd87, V_d87⟩ := hQ97
      have N97 := Fr.app N66 M97
      refine Goes.on (fun t k => st97.trans k) ?_
      have E_98 := E_54.keep Kd87
      have F_99 := F_55.keep Kd87 (ninS ne_x0_bc nin0)
      have E_100 := E_56.keep Kd87
      have F_101 := F_57.keep Kd87 (ninS ne_x1_bc nin0)
      have E_102 := E_58.keep Kd87
      have F_103 := F_59.keep Kd87 (ninS ne_x2_bc nin0)
      have O_104 := O_60.keep Kd87 (allS g_bc all0)
      have E_105 := E_61.keep Kd87
      have A1_106 := A1_62.keep Kd87
      have Fc_107 := Fc_63.keep Kd87 (ninS ne_b1_bc nin0)
      have K109 := K65.trans Kd87 (allS (Or.inr sz_bc) all0)
      show Goes p e below QQ (T97.setTop (mkF m 90 #[iv p1, iv p2, iv p3, iv p4, iv p5, iv (p1 &&& (2147483647 : Int32)), iv (p2 &&& (2147483647 : Int32)), iv (p3 &&& (2147483647 : Int32)), iv (p5 &&& (2147483647 : Int32)), rv b1, iv 1, .unset] []))
      refine Goes.on (fun t k => XS.iload X97.here hx rfl (hb hby at_90) rfl k) ?_
      show Goes p e below QQ (T97.setTop (mkF m 92 #[iv p1, iv p2, iv p3, iv p4, iv p5, iv (p1 &&& (2147483647 : Int32)), iv (p2 &&& (2147483647 : Int32)), iv (p3 &&& (2147483647 : Int32)), iv (p5 &&& (2147483647 : Int32)), rv b1, iv 1, .unset] [(.int (p1 &&& (2147483647 : Int32)))]))
      refine Goes.on (fun t k => XS.iload X97.here hx rfl (hb hby at_92) rfl k) ?_
      show Goes p e below QQ (T97.setTop (mkF m 94 #[iv p1, iv p2, iv p3, iv p4, iv p5, iv (p1 &&& (2147483647 : Int32)), iv (p2 &&& (2147483647 : Int32)), iv (p3 &&& (2147483647 : Int32)), iv (p5 &&& (2147483647 : Int32)), rv b1, iv 1, .unset] [(.int (p2 &&& (2147483647 : Int32))), (.int (p1 &&& (2147483647 : Int32)))]))
      refine Goes.on (fun t k => XS.iadd X97.here hx rfl (hb hby at_94) rfl k) ?_
      show Goes p e below QQ (T97.setTop (mkF m 95 #[iv p1, iv p2, iv p3, iv p4, iv p5, iv (p1 &&& (2147483647 : Int32)), iv (p2 &&& (2147483647 : Int32)), iv (p3 &&& (2147483647 : Int32)), iv (p5 &&& (2147483647 : Int32)), rv b1, iv 1, .unset] [(.int ((p1 &&& (2147483647 : Int32)) + (p2 &&& (2147483647 : Int32))))]))
      refine Goes.on (fun t k => XS.iload X97.here hx rfl (hb hby at_95) rfl k) ?_
      show Goes p e below QQ (T97.setTop (mkF m 97 #[iv p1, iv p2, iv p3, iv p4, iv p5, iv (p1 &&& (2147483647 : Int32)), iv (p2 &&& (2147483647 : Int32)), iv (p3 &&& (2147483647 : Int32)), iv (p5 &&& (2147483647 : Int32)), rv b1, iv 1, .unset] [(.int (p3 &&& (2147483647 : Int32))), (.int ((p1 &&& (2147483647 : Int32)) + (p2 &&& (2147483647 : Int32))))]))
      refine Goes.on (fun t k => XS.iadd X97.here hx rfl (hb hby at_97) rfl k) ?_
      show Goes p e below QQ (T97.setTop (mkF m 98 #[iv p1, iv p2, iv p3, iv p4, iv p5, iv (p1 &&& (2147483647 : Int32)), iv (p2 &&& (2147483647 : Int32)), iv (p3 &&& (2147483647 : Int32)), iv (p5 &&& (2147483647 : Int32)), rv b1, iv 1, .unset] [(.int (((p1 &&& (2147483647 : Int32)) + (p2 &&& (2147483647 : Int32))) + (p3 &&& (2147483647 : Int32))))]))
      refine Goes.on (fun t k => XS.iload X97.here hx rfl (hb hby at_98) rfl k) ?_
      show Goes p e below QQ (T97.setTop (mkF m 100 #[iv p1, iv p2, iv p3, iv p4, iv p5, iv (p1 &&& (2147483647 : Int32)), iv (p2 &&& (2147483647 : Int32)), iv (p3 &&& (2147483647 : Int32)), iv (p5 &&& (2147483647 : Int32)), rv b1, iv 1, .unset] [(.int (p5 &&& (2147483647 : Int32))), (.int (((p1 &&& (2147483647 : Int32)) + (p2 &&& (2147483647 : Int32))) + (p3 &&& (2147483647 : Int32))))]))
      refine Goes.on (fun t k => XS.iadd X97.here hx rfl (hb hby at_100) rfl k) ?_
      show Goes p e below QQ (T97.setTop (mkF m 101 #[iv p1, iv p2, iv p3, iv p4, iv p5, iv (p1 &&& (2147483647 : Int32)), iv (p2 &&& (2147483647 : Int32)), iv (p3 &&& (2147483647 : Int32)), iv (p5 &&& (2147483647 : Int32)), rv b1, iv 1, .unset] [(.int ((((p1 &&& (2147483647 : Int32)) + (p2 &&& (2147483647 : Int32))) + (p3 &&& (2147483647 : Int32))) + (p5 &&& (2147483647 : Int32))))]))
      refine Goes.on (fun t k => XS.istore X97.here hx rfl (hb hby at_101) rfl (l' := #[iv p1, iv p2, iv p3, iv p4, iv p5, iv (p1 &&& (2147483647 : Int32)), iv (p2 &&& (2147483647 : Int32)), iv (p3 &&& (2147483647 : Int32)), iv (p5 &&& (2147483647 : Int32)), rv b1, iv 1, iv ((((p1 &&& (2147483647 : Int32)) + (p2 &&& (2147483647 : Int32))) + (p3 &&& (2147483647 : Int32))) + (p5 &&& (2147483647 : Int32)))]) rfl k) ?_
      show Goes p e below QQ (T97.setTop (mkF m 103 #[iv p1, iv p2, iv p3, iv p4, iv p5, iv (p1 &&& (2147483647 : Int32)), iv (p2 &&& (2147483647 : Int32)), iv (p3 &&& (2147483647 : Int32)), iv (p5 &&& (2147483647 : Int32)), rv b1, iv 1, iv ((((p1 &&& (2147483647 : Int32)) + (p2 &&& (2147483647 : Int32))) + (p3 &&& (2147483647 : Int32))) + (p5 &&& (2147483647 : Int32)))] []))
      refine Goes.on (fun t k => XS.iload X97.here hx rfl (hb hby at_103) rfl k) ?_
      show Goes p e below QQ (T97.setTop (mkF m 105 #[iv p1, iv p2, iv p3, iv p4, iv p5, iv (p1 &&& (2147483647 : Int32)), iv (p2 &&& (2147483647 : Int32)), iv (p3 &&& (2147483647 : Int32)), iv (p5 &&& (2147483647 : Int32)), rv b1, iv 1, iv ((((p1 &&& (2147483647 : Int32)) + (p2 &&& (2147483647 : Int32))) + (p3 &&& (2147483647 : Int32))) + (p5 &&& (2147483647 : Int32)))] [(.int 1)]))
      refine Goes.on (fun t k => XS.ifNo X97.here hx rfl (hb hby at_105) rfl ((if0 _ _).trans (feq (by decide)).1) k) ?_
      show Goes p e below QQ (T97.setTop (mkF m 108 #[iv p1, iv p2, iv p3, iv p4, iv p5, iv (p1 &&& (2147483647 : Int32)), iv (p2 &&& (2147483647 : Int32)), iv (p3 &&& (2147483647 : Int32)), iv (p5 &&& (2147483647 : Int32)), rv b1, iv 1, iv ((((p1 &&& (2147483647 : Int32)) + (p2 &&& (2147483647 : Int32))) + (p3 &&& (2147483647 : Int32))) + (p5 &&& (2147483647 : Int32)))] []))
      refine Goes.on (fun t k => XS.aload X97.here hx rfl (hb hby at_108) rfl rfl k) ?_
      show Goes p e below QQ (T97.setTop (mkF m 110 #[iv p1, iv p2, iv p3, iv p4, iv p5, iv (p1 &&& (2147483647 : Int32)), iv (p2 &&& (2147483647 : Int32)), iv (p3 &&& (2147483647 : Int32)), iv (p5 &&& (2147483647 : Int32)), rv b1, iv 1, iv ((((p1 &&& (2147483647 : Int32)) + (p2 &&& (2147483647 : Int32))) + (p3 &&& (2147483647 : Int32))) + (p5 &&& (2147483647 : Int32)))] [(.ref b1)]))
      obtain ⟨cq110, kq110, q110a, q110b, q110c⟩ := isOf hZ rfl A1_106
      obtain ⟨_, _, ⟨T110, L110, k110, n110⟩, -, X110, ⟨Lc110, hQ110, l110, y110, z110⟩, st110⟩ := X97.virtualBack hx (y := (⟨"com/example/sober_links/soberlinks/io/LeftOutItems", "total", "()I"⟩ : MethodName)) (z := (⟨"com/example/sober_links/soberlinks/io/LeftOutItems", "total", "()I"⟩ : MethodName)) hown (mvT hZ (hw _ (List.mem_of_getElem? (i := 32) rfl))) (mvT hZ (hw _ (List.mem_of_getElem? (i := 33) rfl))) (notFace_of_selects (args := #[]) (mvT hZ (hw _ (List.mem_of_getElem? (i := 35) rfl)))) (mvT hZ (hw _ (List.mem_of_getElem? (i := 35) rfl))) (mvT hZ (hw _ (List.mem_of_getElem? (i := 34) rfl))) (by decide) (backOf (W := 0) (rm5 l Z a0 hw [] b1 bc kc ((0 : Int32) + (p1 &&& (2147483647 : Int32))) ((0 : Int32) + (p2 &&& (2147483647 : Int32))) (((0 : Int32) + (p3 &&& (2147483647 : Int32))) + (p5 &&& (2147483647 : Int32))) T97.heap n0 (Nat.le_trans Z0 K109.1) Fc_107 V_d87) hZ (hw _ (List.mem_of_getElem? (i := 36) rfl)) (hw _ (List.mem_of_getElem? (i := 3) rfl)) (by decide) (by decide)) q110a q110c (g := (mkF m 110 #[iv p1, iv p2, iv p3, iv p4, iv p5, iv (p1 &&& (2147483647 : Int32)), iv (p2 &&& (2147483647 : Int32)), iv (p3 &&& (2147483647 : Int32)), iv (p5 &&& (2147483647 : Int32)), rv b1, iv 1, iv ((((p1 &&& (2147483647 : Int32)) + (p2 &&& (2147483647 : Int32))) + (p3 &&& (2147483647 : Int32))) + (p5 &&& (2147483647 : Int32)))] [(.ref b1)])) rfl (by rw [hml]; rfl) (Steps.refl _) (argsL := []) (rest := []) (lenOf pd_1 rfl) rfl (by show 2 * 0 + _ ≤ _; exact Nat.le_of_eq rfl) (hb hby at_110) (fun _ _ => ⟨rfl, rfl, (by decide : 3 + 0 ≤ _), (by decide : 7 + 0 ≤ _)⟩)
      dsimp only [Pt.U, Pt.locs, Pt.cells, Pt.slots] at X110 l110 y110 z110 st110 hQ110
      subst l110 y110 z110
      obtain ⟨rfl, M110, e110⟩ := hQ110
      have N110 := Fr.app N97 M110
      refine Goes.on (fun t k => st110.trans k) ?_
      show Goes p e below QQ (T110.setTop (mkF m 113 #[iv p1, iv p2, iv p3, iv p4, iv p5, iv (p1 &&& (2147483647 : Int32)), iv (p2 &&& (2147483647 : Int32)), iv (p3 &&& (2147483647 : Int32)), iv (p5 &&& (2147483647 : Int32)), rv b1, iv 1, iv ((((p1 &&& (2147483647 : Int32)) + (p2 &&& (2147483647 : Int32))) + (p3 &&& (2147483647 : Int32))) + (p5 &&& (2147483647 : Int32)))] [(.int (sum3 ((0 : Int32) + (p1 &&& (2147483647 : Int32))) ((0 : Int32) + (p2 &&& (2147483647 : Int32))) (((0 : Int32) + (p3 &&& (2147483647 : Int32))) + (p5 &&& (2147483647 : Int32)))))]))
      refine Goes.on (fun t k => XS.iload X110.here hx rfl (hb hby at_113) rfl k) ?_
      show Goes p e below QQ (T110.setTop (mkF m 115 #[iv p1, iv p2, iv p3, iv p4, iv p5, iv (p1 &&& (2147483647 : Int32)), iv (p2 &&& (2147483647 : Int32)), iv (p3 &&& (2147483647 : Int32)), iv (p5 &&& (2147483647 : Int32)), rv b1, iv 1, iv ((((p1 &&& (2147483647 : Int32)) + (p2 &&& (2147483647 : Int32))) + (p3 &&& (2147483647 : Int32))) + (p5 &&& (2147483647 : Int32)))] [(.int ((((p1 &&& (2147483647 : Int32)) + (p2 &&& (2147483647 : Int32))) + (p3 &&& (2147483647 : Int32))) + (p5 &&& (2147483647 : Int32)))), (.int (sum3 ((0 : Int32) + (p1 &&& (2147483647 : Int32))) ((0 : Int32) + (p2 &&& (2147483647 : Int32))) (((0 : Int32) + (p3 &&& (2147483647 : Int32))) + (p5 &&& (2147483647 : Int32)))))]))
      by_cases hb111 : (sum3 ((0 : Int32) + (p1 &&& (2147483647 : Int32))) ((0 : Int32) + (p2 &&& (2147483647 : Int32))) (((0 : Int32) + (p3 &&& (2147483647 : Int32))) + (p5 &&& (2147483647 : Int32)))) = ((((p1 &&& (2147483647 : Int32)) + (p2 &&& (2147483647 : Int32))) + (p3 &&& (2147483647 : Int32))) + (p5 &&& (2147483647 : Int32)))
      · refine Goes.on (fun t k => XS.icmpNo X110.here hx rfl (hb hby at_115) rfl (teq hb111).2 k) ?_
        show Goes p e below QQ (T110.setTop (mkF m 118 #[iv p1, iv p2, iv p3, iv p4, iv p5, iv (p1 &&& (2147483647 : Int32)), iv (p2 &&& (2147483647 : Int32)), iv (p3 &&& (2147483647 : Int32)), iv (p5 &&& (2147483647 : Int32)), rv b1, iv 1, iv ((((p1 &&& (2147483647 : Int32)) + (p2 &&& (2147483647 : Int32))) + (p3 &&& (2147483647 : Int32))) + (p5 &&& (2147483647 : Int32)))] []))
        refine Goes.on (fun t k => XS.iconst X110.here hx rfl (hb hby at_118) k) ?_
        show Goes p e below QQ (T110.setTop (mkF m 119 #[iv p1, iv p2, iv p3, iv p4, iv p5, iv (p1 &&& (2147483647 : Int32)), iv (p2 &&& (2147483647 : Int32)), iv (p3 &&& (2147483647 : Int32)), iv (p5 &&& (2147483647 : Int32)), rv b1, iv 1, iv ((((p1 &&& (2147483647 : Int32)) + (p2 &&& (2147483647 : Int32))) + (p3 &&& (2147483647 : Int32))) + (p5 &&& (2147483647 : Int32)))] [(.int 1)]))
        refine Goes.on (fun t k => XS.goto X110.here hx rfl (pc0 := 119) (pc' := 123) rfl (hb hby at_119) (by decide) (by decide) k) ?_
        show Goes p e below QQ (T110.setTop (mkF m 123 #[iv p1, iv p2, iv p3, iv p4, iv p5, iv (p1 &&& (2147483647 : Int32)), iv (p2 &&& (2147483647 : Int32)), iv (p3 &&& (2147483647 : Int32)), iv (p5 &&& (2147483647 : Int32)), rv b1, iv 1, iv ((((p1 &&& (2147483647 : Int32)) + (p2 &&& (2147483647 : Int32))) + (p3 &&& (2147483647 : Int32))) + (p5 &&& (2147483647 : Int32)))] [(.int 1)]))
        exact Goes.rN X110 hx (t := .boolean) hret (by simp) hlk (hb hby at_123) hQQ ⟨rfl, N110⟩ (by decide) (by decide)
      · refine Goes.on (fun t k => XS.icmpYes X110.here hx rfl (pc0 := 115) (pc' := 122) rfl (hb hby at_115) rfl (feq hb111).2 (by decide) (by decide) k) ?_
        show Goes p e below QQ (T110.setTop (mkF m 122 #[iv p1, iv p2, iv p3, iv p4, iv p5, iv (p1 &&& (2147483647 : Int32)), iv (p2 &&& (2147483647 : Int32)), iv (p3 &&& (2147483647 : Int32)), iv (p5 &&& (2147483647 : Int32)), rv b1, iv 1, iv ((((p1 &&& (2147483647 : Int32)) + (p2 &&& (2147483647 : Int32))) + (p3 &&& (2147483647 : Int32))) + (p5 &&& (2147483647 : Int32)))] []))
        refine Goes.on (fun t k => XS.iconst X110.here hx rfl (hb hby at_122) k) ?_
        show Goes p e below QQ (T110.setTop (mkF m 123 #[iv p1, iv p2, iv p3, iv p4, iv p5, iv (p1 &&& (2147483647 : Int32)), iv (p2 &&& (2147483647 : Int32)), iv (p3 &&& (2147483647 : Int32)), iv (p5 &&& (2147483647 : Int32)), rv b1, iv 1, iv ((((p1 &&& (2147483647 : Int32)) + (p2 &&& (2147483647 : Int32))) + (p3 &&& (2147483647 : Int32))) + (p5 &&& (2147483647 : Int32)))] [(.int 0)]))
        exact absurd ((((if_neg hd0).trans ((if_neg hd1).trans ((if_neg hb111).trans rfl))) : lawF p1 p2 p3 p4 p5 = (0 : Int32)).symm.trans (lawT p1 p2 p3 p4 p5)) (by decide)
set_option maxRecDepth 65536 in
set_option maxHeartbeats 40000000 in
theorem comes_1 {Post : Tables → Env → Array Value → State → Outcome → State → Prop} (hpost : ∀ tb e args s v u, (limb_1_1.after args s (.returned v) u = true ∧ limb_1_2.after args s (.returned v) u = true ∧ True) → FrameEnd s (.returned v) u (Jvm.fieldLocs frame_1_writes args s ++ Jvm.arrayLocs frame_1_arrays args s ++ Jvm.staticLocs frame_1_statics s) 16 128 → Post tb e args s (.returned v) u) :
    ArmFor flags0 classFile x code maxLocals ret World_1 tables_1 room_1 Calls_1 rest_1 Pre_1 Post := by
  intro l hfl _ _ p e ha hc hk s m args below hf hA hF happ hP
  obtain ⟨hcalls, hrest, hpre⟩ := hP
  obtain ⟨-, -, -, hnamed, -, -, -, hat⟩ := (Spec.applies_iff hf).mp happ
  obtain ⟨hg, hn⟩ := and_e (Cond.before_iff.mp (show (Jvm.Cond.and given_1 narrow_1).before args s = true from hpre))
  obtain ⟨hg0, hg1⟩ := and_e hg
  obtain ⟨ga1, hg2⟩ := and_e hg1
  obtain ⟨ga2, hg3⟩ := and_e hg2
  obtain ⟨ga3, hg4⟩ := and_e hg3
  obtain ⟨ga4, hg5⟩ := and_e hg4
  obtain ⟨w0, w1, w2, w3, w4, rfl⟩ : ∃ w0 w1 w2 w3 w4 : Value, args = #[w0, w1, w2, w3, w4] := by
    have hs : args.size = 5 := by simpa [Cond.value, given_1] using hg0
    obtain ⟨L⟩ := args
    match L, hs with
    | [w0, w1, w2, w3, w4], _ => exact ⟨w0, w1, w2, w3, w4, rfl⟩
  have hw := fun d (hd : d ∈ tables_1) => atoms_spec (ws := Jvm.Cond.code x code maxLocals ret :: tables_1) hat d (List.mem_cons_of_mem _ hd)
  have hfit : Fit s := fun {y c} hc i hi => by
    obtain ⟨ha, rfl⟩ := Array.getElem?_eq_some_iff.mp hc
    have q := List.all_eq_true.mp ((Array.all_eq_true_iff_forall_mem.mp hF) _ (Array.getElem_mem ha)) i (List.mem_range.mpr hi)
    simpa [Array.getElem?_eq_getElem hi] using q
  obtain ⟨i0, ei0⟩ := is_v ga1
  obtain rfl : w0 = (.int i0) := Option.some.inj ei0
  obtain ⟨i1, ei1⟩ := is_v ga2
  obtain rfl : w1 = (.int i1) := Option.some.inj ei1
  obtain ⟨i2, ei2⟩ := is_v ga3
  obtain rfl : w2 = (.int i2) := Option.some.inj ei2
  obtain ⟨i3, ei3⟩ := is_v ga4
  obtain rfl : w3 = (.int i3) := Option.some.inj ei3
  obtain ⟨i4, ei4⟩ := is_v hg5
  obtain rfl : w4 = (.int i4) := Option.some.inj ei4
  obtain ⟨nc0, nr0⟩ := and_e hn
  obtain ⟨nc1, nr1⟩ := and_e nr0
  obtain ⟨nc2, nr2⟩ := and_e nr1
  obtain ⟨nc3, nr3⟩ := and_e nr2
  obtain ⟨nc4, nr4⟩ := and_e nr3
  obtain ⟨nc5, nr5⟩ := and_e nr4
  obtain ⟨nc6, nr6⟩ := and_e nr5
  obtain ⟨nc7, nr7⟩ := and_e nr6
  obtain ⟨nc8, nr8⟩ := and_e nr7
  obtain ⟨nc9, nr9⟩ := and_e nr8
  obtain ⟨nc10, nr10⟩ := and_e nr9
  have nc11 := nr10
  obtain ⟨x_qVALUES, ev_qVALUES⟩ := exa_v nc1
  have EX_qVALUES := Exa.start ev_qVALUES nc1
  have ST_qVALUES : Sta s s.heap "com/example/sober_links/soberlinks/io/LeftOutItems$Reason" "$VALUES" "[Lcom/example/sober_links/soberlinks/io/LeftOutItems$Reason;" (.ref x_qVALUES) := Sta.start ev_qVALUES (Or.inr ⟨(hw _ (List.mem_of_getElem? (i := 12) rfl)), (hw _ (List.mem_of_getElem? (i := 15) rfl))⟩)
  obtain ⟨x_RANK_ABOVE_ONE, ev_RANK_ABOVE_ONE⟩ := exa_v nc3
  have EX_RANK_ABOVE_ONE := Exa.start ev_RANK_ABOVE_ONE nc3
  have ST_RANK_ABOVE_ONE : Sta s s.heap "com/example/sober_links/soberlinks/io/LeftOutItems$Reason" "RANK_ABOVE_ONE" "Lcom/example/sober_links/soberlinks/io/LeftOutItems$Reason;" (.ref x_RANK_ABOVE_ONE) := Sta.start ev_RANK_ABOVE_ONE (Or.inr ⟨(hw _ (List.mem_of_getElem? (i := 12) rfl)), (hw _ (List.mem_of_getElem? (i := 23) rfl))⟩)
  obtain ⟨x_WITHOUT_CROSSLINK, ev_WITHOUT_CROSSLINK⟩ := exa_v nc5
  have EX_WITHOUT_CROSSLINK := Exa.start ev_WITHOUT_CROSSLINK nc5
  have ST_WITHOUT_CROSSLINK : Sta s s.heap "com/example/sober_links/soberlinks/io/LeftOutItems$Reason" "WITHOUT_CROSSLINK" "Lcom/example/sober_links/soberlinks/io/LeftOutItems$Reason;" (.ref x_WITHOUT_CROSSLINK) := Sta.start ev_WITHOUT_CROSSLINK (Or.inr ⟨(hw _ (List.mem_of_getElem? (i := 12) rfl)), (hw _ (List.mem_of_getElem? (i := 24) rfl))⟩)
  obtain ⟨x_NOT_DONOR_AND_ACCEPTOR, ev_NOT_DONOR_AND_ACCEPTOR⟩ := exa_v nc7
  have EX_NOT_DONOR_AND_ACCEPTOR := Exa.start ev_NOT_DONOR_AND_ACCEPTOR nc7
  have ST_NOT_DONOR_AND_ACCEPTOR : Sta s s.heap "com/example/sober_links/soberlinks/io/LeftOutItems$Reason" "NOT_DONOR_AND_ACCEPTOR" "Lcom/example/sober_links/soberlinks/io/LeftOutItems$Reason;" (.ref x_NOT_DONOR_AND_ACCEPTOR) := Sta.start ev_NOT_DONOR_AND_ACCEPTOR (Or.inr ⟨(hw _ (List.mem_of_getElem? (i := 12) rfl)), (hw _ (List.mem_of_getElem? (i := 25) rfl))⟩)
  have FL_RANK_ABOVE_ONE_ordinal : Fld s s.heap x_RANK_ABOVE_ONE "java/lang/Enum" "ordinal" "I" (.int (0 : Int32)) := own_fldI ev_RANK_ABOVE_ONE nc9
  have FL_WITHOUT_CROSSLINK_ordinal : Fld s s.heap x_WITHOUT_CROSSLINK "java/lang/Enum" "ordinal" "I" (.int (1 : Int32)) := own_fldI ev_WITHOUT_CROSSLINK nc10
  have FL_NOT_DONOR_AND_ACCEPTOR_ordinal : Fld s s.heap x_NOT_DONOR_AND_ACCEPTOR "java/lang/Enum" "ordinal" "I" (.int (2 : Int32)) := own_fldI ev_NOT_DONOR_AND_ACCEPTOR nc11
  obtain ⟨cv, A_v⟩ := Arr.start ev_qVALUES nc0
  have F_v : FitC s cv := FitC.start hfit A_v
  have sz_v : cv.slots.size = 3 := own_len 3 (by decide) ev_qVALUES A_v nc2
  obtain ⟨n, o, h1, h2, h3, _, L, rfl, ⟨rfl, N⟩, hq⟩ := rm0 l s _ hw tables_1 i0 i1 i2 i3 i4 x_RANK_ABOVE_ONE x_WITHOUT_CROSSLINK x_NOT_DONOR_AND_ACCEPTOR x_qVALUES cv s.heap s.heap.size (Nat.le_refl _) ST_RANK_ABOVE_ONE EX_RANK_ABOVE_ONE FL_RANK_ABOVE_ONE_ordinal ST_WITHOUT_CROSSLINK EX_WITHOUT_CROSSLINK FL_WITHOUT_CROSSLINK_ordinal ST_NOT_DONOR_AND_ACCEPTOR EX_NOT_DONOR_AND_ACCEPTOR FL_NOT_DONOR_AND_ACCEPTOR_ordinal (Old.start s) ST_qVALUES A_v EX_qVALUES F_v sz_v p e ha hc hk s m _ below hf ((Spec.applies_iff_loose hf).mp happ).1 ⟨rfl, State.Warmed39.refl s, rfl⟩ trivial
  refine ⟨n, _, h1, h2, h3, hpost _ _ _ _ _ _ ⟨Cond.after_iff.mpr rfl, Cond.after_iff.mpr (eq_i res_at (Term.int_eval (1)) rfl), trivial⟩ ⟨hq.1, hq.2.1, (hq.2.2.sift fun y hy => Or.inr (N y hy)).mono (by decide) (by decide)⟩⟩
theorem main_1_1 : Claimed_1_1 := comes_1 fun _ _ _ _ _ _ h hF => ⟨h.1, hF⟩
theorem main_1_2 : Claimed_1_2 := comes_1 fun _ _ _ _ _ _ h hF => ⟨h.2.1, hF⟩
end Jvm.Pilot.@@N@@
namespace Jvm.Pilot.@@N@@
open Jvm Jvm.ClassFile Sem Op Lib Jvm.Free Jvm.Stand Jvm.Pilot.@@N@@.Jvm.D
/-! MADE BY PROGRAM (witnessworld.py) out of the Statement's table words and the real class files: 14 classes; the members and pool entries that the words name. The judged class is class 1, her method 2. -/
namespace start1
open Jvm.ClassFile
def u (s : String) : CpInfo := .utf8 (stringToUtf16 s)
/-- a pool by its gaps: so many unusable entries, then the entry; so many at the end -/
def gap : Nat → List CpInfo → List CpInfo
  | 0, r => r
  | n + 1, r => .unusable :: gap n r
def poolList (es : List (Nat × CpInfo)) (last : Nat) : List CpInfo := es.foldr (fun e r => gap e.1 (e.2 :: r)) (gap last [])
def pool (es : List (Nat × CpInfo)) (last : Nat) : Array CpInfo := ⟨poolList es last⟩
def fileOf (pool : Array CpInfo) (this : Nat) (attrs : Array Attribute := #[]) (ms : Array MethodInfo := #[]) (fl : Nat := 33) (sup : Nat := 0) (ifs : Array Nat := #[]) (fds : Array FieldInfo := #[]) : ClassFile where
  minorVersion := 0
  majorVersion := 65
  constantPool := pool
  accessFlags := fl
  thisClass := this
  superClass := sup
  interfaces := ifs
  fields := fds
  methods := ms
  attributes := attrs
def plain (name : String) (sup : Option ClassId) : Class where
  name := name
  kind := .ordinary
  loader := none
  accessFlags := 33
  super := sup
  interfaces := #[]
  cf := none
  fields := #[]
  methods := #[]
  instanceTypes := #[]
  staticTypes := #[]
  resolved := #[]
  callSites := []
  init := .initialized
  statics := none
  mirror := none

def pool0 : Array CpInfo := pool [(5, u "<init>"), (0, u "()V"), (1, .class_ 10), (1, u "java/lang/Object"), (85, u "clone"), (0, u "()Ljava/lang/Object;")] 26

def k0c0 : Code := { maxStack := 0, maxLocals := 1, code := object_method_1_code, exceptionTable := #[], attributes := #[] }
def k0m0 : Method := { name := "<init>", desc := "()V", sig := { parameters := [], returnType := none }, accessFlags := 1, code := some k0c0 }
def k0m1 : Method := { name := "clone", desc := "()Ljava/lang/Object;", sig := { parameters := [], returnType := some (.object "java/lang/Object") }, accessFlags := 260, code := none }
/-- java/lang/Object -/
def k0 : Class := { plain "java/lang/Object" none with
  accessFlags := 33
  interfaces := #[]
  cf := some (fileOf pool0 8 #[] #[{ accessFlags := 1, nameIndex := 5, descriptorIndex := 6, attributes := #[] }, { accessFlags := 260, nameIndex := 96, descriptorIndex := 97, attributes := #[] }] 33 0 #[] #[])
  fields := #[]
  methods := #[k0m0, k0m1]
  instanceTypes := #[]
  staticTypes := #[]
  resolved := Array.replicate 124 none
  statics := none }

def pool1 : Array CpInfo := pool [(2, .class_ 4), (0, .nameAndType 5 6), (0, u "java/lang/Object"), (0, u "<init>"), (0, u "()V"), (0, .integer 2147483647), (0, .fieldref 9 10), (0, .class_ 11), (0, .nameAndType 12 13), (0, u "com/example/sober_links/soberlinks/io/LeftOutItems$Reason"), (0, u "RANK_ABOVE_ONE"), (0, u "Lcom/example/sober_links/soberlinks/io/LeftOutItems$Reason;"), (0, .fieldref 9 15), (0, .nameAndType 16 13), (0, u "WITHOUT_CROSSLINK"), (0, .fieldref 9 18), (0, .nameAndType 19 13), (0, u "NOT_DONOR_AND_ACCEPTOR"), (0, .class_ 21), (0, u "com/example/sober_links/soberlinks/io/LeftOutItems"), (0, .methodref 20 3), (0, .methodref 20 24), (0, .nameAndType 25 26), (0, u "total"), (0, u "()I"), (0, .methodref 20 28), (0, .nameAndType 29 30), (0, u "add"), (0, u "(Lcom/example/sober_links/soberlinks/io/LeftOutItems$Reason;I)V"), (0, .methodref 32 33), (0, .class_ 34), (0, .nameAndType 35 36), (0, u "com/example/sober_links/soberlinks/io/LeftOutItemsTotalPinLaw"), (0, u "pick"), (0, u "(I)Lcom/example/sober_links/soberlinks/io/LeftOutItems$Reason;"), (3, u "law"), (0, u "(IIIII)Z")] 4

def k1m0 : Method := { name := "<init>", desc := "()V", sig := { parameters := [], returnType := none }, accessFlags := 1, code := none }
def k1c1 : Code := { maxStack := 2, maxLocals := 2, code := method_2_code, exceptionTable := #[], attributes := #[] }
def k1m1 : Method := { name := "pick", desc := "(I)Lcom/example/sober_links/soberlinks/io/LeftOutItems$Reason;", sig := { parameters := [.int], returnType := some (.object "com/example/sober_links/soberlinks/io/LeftOutItems$Reason") }, accessFlags := 10, code := some k1c1 }
def k1c2 : Code := { maxStack := 3, maxLocals := 12, code := code, exceptionTable := #[], attributes := #[] }
def k1m2 : Method := { name := "law", desc := "(IIIII)Z", sig := { parameters := [.int, .int, .int, .int, .int], returnType := some .boolean }, accessFlags := 9, code := some k1c2 }
/-- com/example/sober_links/soberlinks/io/LeftOutItemsTotalPinLaw -/
def k1 : Class := { plain "com/example/sober_links/soberlinks/io/LeftOutItemsTotalPinLaw" (some 0) with
  accessFlags := 49
  interfaces := #[]
  cf := some (fileOf pool1 32 #[] #[{ accessFlags := 1, nameIndex := 5, descriptorIndex := 6, attributes := #[] }, { accessFlags := 10, nameIndex := 35, descriptorIndex := 36, attributes := #[] }, { accessFlags := 9, nameIndex := 40, descriptorIndex := 41, attributes := #[] }] 49 2 #[] #[])
  fields := #[]
  methods := #[k1m0, k1m1, k1m2]
  instanceTypes := #[]
  staticTypes := #[]
  resolved := Array.replicate 46 none
  statics := none }

def pool2 : Array CpInfo := pool [(1, .methodref 2 3), (0, .class_ 4), (0, .nameAndType 5 6), (0, u "java/lang/Object"), (0, u "<init>"), (0, u "()V"), (0, .methodref 8 9), (0, .class_ 10), (0, .nameAndType 11 12), (0, u "com/example/sober_links/soberlinks/io/LeftOutItems$Reason"), (0, u "values"), (0, u "()[Lcom/example/sober_links/soberlinks/io/LeftOutItems$Reason;"), (0, .fieldref 14 15), (0, .class_ 16), (0, .nameAndType 17 18), (0, u "com/example/sober_links/soberlinks/io/LeftOutItems"), (0, u "counts"), (0, u "[I"), (0, .methodref 8 20), (0, .nameAndType 21 22), (0, u "ordinal"), (0, u "()I"), (19, u "add"), (11, u "total"), (6, u "(Lcom/example/sober_links/soberlinks/io/LeftOutItems$Reason;I)V")] 19

def k2c0 : Code := { maxStack := 2, maxLocals := 1, code := prog_35_method_1_code, exceptionTable := #[], attributes := #[] }
def k2m0 : Method := { name := "<init>", desc := "()V", sig := { parameters := [], returnType := none }, accessFlags := 0, code := some k2c0 }
def k2c1 : Code := { maxStack := 2, maxLocals := 6, code := prog_35_method_3_code, exceptionTable := #[], attributes := #[] }
def k2m1 : Method := { name := "total", desc := "()I", sig := { parameters := [], returnType := some .int }, accessFlags := 1, code := some k2c1 }
def k2c2 : Code := { maxStack := 4, maxLocals := 3, code := prog_35_method_5_code, exceptionTable := #[], attributes := #[] }
def k2m2 : Method := { name := "add", desc := "(Lcom/example/sober_links/soberlinks/io/LeftOutItems$Reason;I)V", sig := { parameters := [(.object "com/example/sober_links/soberlinks/io/LeftOutItems$Reason"), .int], returnType := none }, accessFlags := 0, code := some k2c2 }
/-- com/example/sober_links/soberlinks/io/LeftOutItems -/
def k2 : Class := { plain "com/example/sober_links/soberlinks/io/LeftOutItems" (some 0) with
  accessFlags := 49
  interfaces := #[]
  cf := some (fileOf pool2 14 #[.nestMembers #[8]] #[{ accessFlags := 0, nameIndex := 5, descriptorIndex := 6, attributes := #[] }, { accessFlags := 1, nameIndex := 54, descriptorIndex := 22, attributes := #[] }, { accessFlags := 0, nameIndex := 42, descriptorIndex := 61, attributes := #[] }] 49 2 #[] #[{ accessFlags := 18, nameIndex := 17, descriptorIndex := 18, attributes := #[] }])
  fields := #[{ name := "counts", type := (.array .int), accessFlags := 18, slot := 0, constantValue := 0 }]
  methods := #[k2m0, k2m1, k2m2]
  instanceTypes := #[(.array .int)]
  staticTypes := #[]
  resolved := Array.replicate 81 none
  statics := none }

def pool3 : Array CpInfo := pool [(1, .class_ 2), (0, u "java/lang/constant/Constable"), (0, .class_ 4), (0, u "java/lang/Object")] 6

/-- java/lang/constant/Constable -/
def k3 : Class := { plain "java/lang/constant/Constable" (some 0) with
  accessFlags := 1537
  interfaces := #[]
  cf := some (fileOf pool3 1 #[] #[] 1537 3 #[] #[])
  fields := #[]
  methods := #[]
  instanceTypes := #[]
  staticTypes := #[]
  resolved := Array.replicate 11 none
  statics := none }

def pool4 : Array CpInfo := pool [(1, .class_ 2), (0, u "java/lang/Comparable"), (0, .class_ 4), (0, u "java/lang/Object")] 7

/-- java/lang/Comparable -/
def k4 : Class := { plain "java/lang/Comparable" (some 0) with
  accessFlags := 1537
  interfaces := #[]
  cf := some (fileOf pool4 1 #[] #[] 1537 3 #[] #[])
  fields := #[]
  methods := #[]
  instanceTypes := #[]
  staticTypes := #[]
  resolved := Array.replicate 12 none
  statics := none }

def pool5 : Array CpInfo := pool [(1, .class_ 2), (0, u "java/io/Serializable"), (0, .class_ 4), (0, u "java/lang/Object")] 2

/-- java/io/Serializable -/
def k5 : Class := { plain "java/io/Serializable" (some 0) with
  accessFlags := 1537
  interfaces := #[]
  cf := some (fileOf pool5 1 #[] #[] 1537 3 #[] #[])
  fields := #[]
  methods := #[]
  instanceTypes := #[]
  staticTypes := #[]
  resolved := Array.replicate 7 none
  statics := none }

def pool6 : Array CpInfo := pool [(2, .class_ 4), (1, u "java/lang/Enum"), (0, u "name"), (0, u "Ljava/lang/String;"), (0, .fieldref 2 8), (0, .nameAndType 9 10), (0, u "ordinal"), (0, u "I"), (1, .class_ 14), (1, u "java/lang/Object"), (4, u "hash"), (86, .class_ 108), (1, u "java/lang/Enum$EnumDesc"), (2, .class_ 112), (0, u "java/lang/constant/Constable"), (0, .class_ 114), (0, u "java/lang/Comparable"), (0, .class_ 116), (0, u "java/io/Serializable"), (9, u "()I")] 77

def k6c0 : Code := { maxStack := 1, maxLocals := 1, code := jdk_37_method_2_code, exceptionTable := #[], attributes := #[] }
def k6m0 : Method := { name := "ordinal", desc := "()I", sig := { parameters := [], returnType := some .int }, accessFlags := 17, code := some k6c0 }
/-- java/lang/Enum -/
def k6 : Class := { plain "java/lang/Enum" (some 0) with
  accessFlags := 1057
  interfaces := #[3, 4, 5]
  cf := some (fileOf pool6 2 #[.nestMembers #[106]] #[{ accessFlags := 17, nameIndex := 9, descriptorIndex := 126, attributes := #[] }] 1057 12 #[111, 113, 115] #[{ accessFlags := 18, nameIndex := 5, descriptorIndex := 6, attributes := #[] }, { accessFlags := 18, nameIndex := 9, descriptorIndex := 10, attributes := #[] }, { accessFlags := 2, nameIndex := 19, descriptorIndex := 10, attributes := #[] }])
  fields := #[{ name := "name", type := (.object "java/lang/String"), accessFlags := 18, slot := 0, constantValue := 0 }, { name := "ordinal", type := .int, accessFlags := 18, slot := 1, constantValue := 0 }, { name := "hash", type := .int, accessFlags := 2, slot := 2, constantValue := 0 }]
  methods := #[k6m0]
  instanceTypes := #[(.object "java/lang/String"), .int, .int]
  staticTypes := #[]
  resolved := Array.replicate 204 none
  statics := none }

def pool7 : Array CpInfo := pool [(1, .class_ 2), (0, u "com/example/sober_links/soberlinks/io/LeftOutItems$Reason"), (2, u "RANK_ABOVE_ONE"), (0, u "Lcom/example/sober_links/soberlinks/io/LeftOutItems$Reason;"), (2, u "WITHOUT_CROSSLINK"), (2, u "NOT_DONOR_AND_ACCEPTOR"), (0, .fieldref 1 14), (0, .nameAndType 15 16), (0, u "$VALUES"), (0, u "[Lcom/example/sober_links/soberlinks/io/LeftOutItems$Reason;"), (0, .methodref 18 19), (0, .class_ 16), (0, .nameAndType 20 21), (0, u "clone"), (0, u "()Ljava/lang/Object;"), (1, .class_ 25), (1, u "java/lang/Enum"), (8, u "key"), (0, u "Ljava/lang/String;"), (2, u "phrase"), (21, u "()[Lcom/example/sober_links/soberlinks/io/LeftOutItems$Reason;"), (0, u "values"), (13, .class_ 76), (0, u "com/example/sober_links/soberlinks/io/LeftOutItems")] 2

def k7c0 : Code := { maxStack := 1, maxLocals := 0, code := prog_36_method_1_code, exceptionTable := #[], attributes := #[] }
def k7m0 : Method := { name := "values", desc := "()[Lcom/example/sober_links/soberlinks/io/LeftOutItems$Reason;", sig := { parameters := [], returnType := some (.array (.object "com/example/sober_links/soberlinks/io/LeftOutItems$Reason")) }, accessFlags := 9, code := some k7c0 }
/-- com/example/sober_links/soberlinks/io/LeftOutItems$Reason -/
def k7 : Class := { plain "com/example/sober_links/soberlinks/io/LeftOutItems$Reason" (some 6) with
  accessFlags := 16433
  interfaces := #[]
  cf := some (fileOf pool7 1 #[.nestHost 75] #[{ accessFlags := 9, nameIndex := 61, descriptorIndex := 60, attributes := #[] }] 16433 23 #[] #[{ accessFlags := 16409, nameIndex := 5, descriptorIndex := 6, attributes := #[] }, { accessFlags := 16409, nameIndex := 9, descriptorIndex := 6, attributes := #[] }, { accessFlags := 16409, nameIndex := 12, descriptorIndex := 6, attributes := #[] }, { accessFlags := 18, nameIndex := 34, descriptorIndex := 35, attributes := #[] }, { accessFlags := 18, nameIndex := 38, descriptorIndex := 35, attributes := #[] }, { accessFlags := 4122, nameIndex := 15, descriptorIndex := 16, attributes := #[] }])
  fields := #[{ name := "RANK_ABOVE_ONE", type := (.object "com/example/sober_links/soberlinks/io/LeftOutItems$Reason"), accessFlags := 16409, slot := 0, constantValue := 0 }, { name := "WITHOUT_CROSSLINK", type := (.object "com/example/sober_links/soberlinks/io/LeftOutItems$Reason"), accessFlags := 16409, slot := 1, constantValue := 0 }, { name := "NOT_DONOR_AND_ACCEPTOR", type := (.object "com/example/sober_links/soberlinks/io/LeftOutItems$Reason"), accessFlags := 16409, slot := 2, constantValue := 0 }, { name := "key", type := (.object "java/lang/String"), accessFlags := 18, slot := 3, constantValue := 0 }, { name := "phrase", type := (.object "java/lang/String"), accessFlags := 18, slot := 4, constantValue := 0 }, { name := "$VALUES", type := (.array (.object "com/example/sober_links/soberlinks/io/LeftOutItems$Reason")), accessFlags := 4122, slot := 3, constantValue := 0 }]
  methods := #[k7m0]
  instanceTypes := #[(.object "java/lang/String"), .int, .int, (.object "java/lang/String"), (.object "java/lang/String")]
  staticTypes := #[(.object "com/example/sober_links/soberlinks/io/LeftOutItems$Reason"), (.object "com/example/sober_links/soberlinks/io/LeftOutItems$Reason"), (.object "com/example/sober_links/soberlinks/io/LeftOutItems$Reason"), (.array (.object "com/example/sober_links/soberlinks/io/LeftOutItems$Reason"))]
  resolved := Array.replicate 79 none
  statics := some 0 }

def pool8 : Array CpInfo := pool [(1, .class_ 2), (0, u "java/lang/Cloneable"), (0, .class_ 4), (0, u "java/lang/Object")] 2

/-- java/lang/Cloneable -/
def k8 : Class := { plain "java/lang/Cloneable" (some 0) with
  accessFlags := 1537
  interfaces := #[]
  cf := some (fileOf pool8 1 #[] #[] 1537 3 #[] #[])
  fields := #[]
  methods := #[]
  instanceTypes := #[]
  staticTypes := #[]
  resolved := Array.replicate 7 none
  statics := none }

/-- the primitive byte -/
def k9 : Class := { plain "byte" none with kind := .primitive 'B', accessFlags := 0x411 }
/-- [B -/
def k10 : Class := { plain "[B" (some 0) with kind := .array 9 .byte, interfaces := #[8, 5], accessFlags := 1041 }

/-- the primitive int -/
def k11 : Class := { plain "int" none with kind := .primitive 'I', accessFlags := 0x411 }
/-- [I -/
def k12 : Class := { plain "[I" (some 0) with kind := .array 11 .int, interfaces := #[8, 5], accessFlags := 1041 }

/-- [Lcom/example/sober_links/soberlinks/io/LeftOutItems$Reason; -/
def k13 : Class := { plain "[Lcom/example/sober_links/soberlinks/io/LeftOutItems$Reason;" (some 0) with kind := .array 7 (.object "com/example/sober_links/soberlinks/io/LeftOutItems$Reason"), interfaces := #[8, 5], accessFlags := 1041 }

def heap : Heap := #[{ cls := 7, slots := #[.ref 2, .ref 3, .ref 4, .ref 1], vm := .statics 7 },
  { cls := 13, slots := #[.ref 2, .ref 3, .ref 4], vm := .none },
  { cls := 7, slots := #[.null, .int 0, .int 0, .null, .null], vm := .none },
  { cls := 7, slots := #[.null, .int 1, .int 0, .null, .null], vm := .none },
  { cls := 7, slots := #[.null, .int 2, .int 0, .null, .null], vm := .none }]
def classes : Array Class := #[k0, k1, k2, k3, k4, k5, k6, k7, k8, k9, k10, k11, k12, k13]
def interned : List (Array UInt16 × Addr) := []
def slotsUsed : Nat := 22
def theMethod : MethodId := ⟨1, 2⟩
def args0 : Array Value := #[.int 0, .int 1, .int 2, .int 3, .int 4]
def aboutOver (below : List Frame) : State where
  vm := { classes := classes, interned := interned.toArray }
  heap := heap
  slotsUsed := slotsUsed
  threads := #[{ frames := .invoking theMethod args0 :: below }]
def below0 : List Frame := [.native { method := ⟨0, 0⟩, args := #[] }]
def about1 : State := aboutOver below0
def p0 : Program := .bare "" "" ""
def e0 : Env := launch0.env 0 0 0
theorem w_frames : about1.frames = Frame.invoking theMethod args0 :: below0 := rfl
set_option maxRecDepth 65536 in
theorem w_args : argsFit about1.vm theMethod args0 = true := by decide +kernel
set_option maxRecDepth 65536 in
theorem w_heap : heapFits about1 = true := by decide +kernel
set_option maxRecDepth 65536 in
theorem w_runnable : about1.curStatus? = some .runnable := by decide +kernel
set_option maxRecDepth 65536 in
theorem w_alone : about1.alone = true := by decide +kernel
set_option maxRecDepth 65536 in
theorem w_named : about1.methodNamed? x = some theMethod := by decide +kernel
set_option maxRecDepth 65536 in
theorem w_hears : about1.hears theMethod below0 = true := by decide +kernel
set_option maxRecDepth 65536 in
theorem w_ripe : about1.ripe theMethod args0 below0 = true := by decide +kernel
theorem w_running : about1.status = .running := rfl
set_option maxRecDepth 65536 in
theorem w_room : about1.hasRoom e0.platform room_1 = true :=
  launch0.hasRoom_least _ room_1 (by decide +kernel) (by decide +kernel) (by decide +kernel) (by decide +kernel) (by decide +kernel) (by decide +kernel)
theorem allAtoms_all (ts : List Jvm.Cond) (a : Array Jvm.Value) (st : Jvm.State) : (allAtoms ts).before a st = ts.all (fun c => c.before a st) := by
  induction ts with
  | nil => rfl
  | cons c t ih =>
    show (Jvm.Cond.and c (allAtoms t)).before a st = _
    rw [Jvm.Cond.before_and, ih, List.all_cons]
def words1 : List Jvm.Cond := Jvm.Cond.code x code maxLocals ret :: tables_1
/-- a 'code' word, met by the world's own term for the bytes: nothing is compared byte by byte -/
theorem code_word {y : MethodName} {bytes : ByteArray} {mx : Nat} {rt : Option FieldType} {a : Array Value} {s : State} {m : MethodId} {meth : Method} {c : Code} (h1 : s.methodNamed? y = some m) (h2 : s.vm.method? m = some meth) (h3 : meth.code = some c) (h4 : c.code = bytes)
    (h5 : (c.maxLocals == mx && c.exceptionTable.isEmpty && decide (c.maxStack ≤ mostOperands) && decide (meth.sig.returnType = rt) && !meth.locks && decide (parseMethodDescriptor y.desc = some meth.sig)) = true) : (Jvm.Cond.code y bytes mx rt).before a s = true := by
  simp only [Bool.and_eq_true, beq_iff_eq, Bool.not_eq_true', decide_eq_true_eq] at h5
  obtain ⟨⟨⟨⟨⟨g1, g2⟩, g3⟩, g4⟩, g5⟩, g6⟩ := h5
  simp [Cond.before, Cond.holds, Cond.value, h1, h2, h3, h4, g1, g2, g3, g4, g5, g6]
def isCode : Jvm.Cond → Bool
  | .code _ _ _ _ => true
  | _ => false
theorem all_split {L : List Jvm.Cond} {P : Jvm.Cond → Bool} (h1 : L.all (fun c => isCode c || P c) = true) (h2 : ∀ c ∈ L.filter isCode, P c = true) : L.all P = true := by
  refine List.all_eq_true.mpr fun c hc => ?_
  have h := List.all_eq_true.mp h1 c hc
  rcases Bool.eq_false_or_eq_true (isCode c) with hi | hi
  · exact h2 c (List.mem_filter.mpr ⟨hc, hi⟩)
  · simpa [hi] using h
set_option maxRecDepth 65536 in
theorem w_c0 : (Jvm.Cond.code x code maxLocals ret).before args0 about1 = true := code_word (m := ⟨1, 2⟩) (meth := k1m2) (c := k1c2) (by decide +kernel) rfl rfl rfl (by decide +kernel)
set_option maxRecDepth 65536 in
theorem w_c1 : (Jvm.Cond.code ({ cls := "com/example/sober_links/soberlinks/io/LeftOutItems", name := "<init>", desc := "()V" } : Jvm.MethodName) prog_35_method_1_code (1 : Nat) (Option.none : Option Jvm.ClassFile.FieldType)).before args0 about1 = true := code_word (m := ⟨2, 0⟩) (meth := k2m0) (c := k2c0) (by decide +kernel) rfl rfl rfl (by decide +kernel)
set_option maxRecDepth 65536 in
theorem w_c2 : (Jvm.Cond.code ({ cls := "java/lang/Object", name := "<init>", desc := "()V" } : Jvm.MethodName) object_method_1_code (1 : Nat) (Option.none : Option Jvm.ClassFile.FieldType)).before args0 about1 = true := code_word (m := ⟨0, 0⟩) (meth := k0m0) (c := k0c0) (by decide +kernel) rfl rfl rfl (by decide +kernel)
set_option maxRecDepth 65536 in
theorem w_c3 : (Jvm.Cond.code ({ cls := "com/example/sober_links/soberlinks/io/LeftOutItems$Reason", name := "values", desc := "()[Lcom/example/sober_links/soberlinks/io/LeftOutItems$Reason;" } : Jvm.MethodName) prog_36_method_1_code (0 : Nat) (Option.some (Jvm.ClassFile.FieldType.array (Jvm.ClassFile.FieldType.object "com/example/sober_links/soberlinks/io/LeftOutItems$Reason")))).before args0 about1 = true := code_word (m := ⟨7, 0⟩) (meth := k7m0) (c := k7c0) (by decide +kernel) rfl rfl rfl (by decide +kernel)
set_option maxRecDepth 65536 in
theorem w_c4 : (Jvm.Cond.code ({ cls := "com/example/sober_links/soberlinks/io/LeftOutItems", name := "total", desc := "()I" } : Jvm.MethodName) prog_35_method_3_code (6 : Nat) (Option.some Jvm.ClassFile.FieldType.int)).before args0 about1 = true := code_word (m := ⟨2, 1⟩) (meth := k2m1) (c := k2c1) (by decide +kernel) rfl rfl rfl (by decide +kernel)
set_option maxRecDepth 65536 in
theorem w_c5 : (Jvm.Cond.code ({ cls := "com/example/sober_links/soberlinks/io/LeftOutItems", name := "add", desc := "(Lcom/example/sober_links/soberlinks/io/LeftOutItems$Reason;I)V" } : Jvm.MethodName) prog_35_method_5_code (3 : Nat) (Option.none : Option Jvm.ClassFile.FieldType)).before args0 about1 = true := code_word (m := ⟨2, 2⟩) (meth := k2m2) (c := k2c2) (by decide +kernel) rfl rfl rfl (by decide +kernel)
set_option maxRecDepth 65536 in
theorem w_c6 : (Jvm.Cond.code ({ cls := "java/lang/Enum", name := "ordinal", desc := "()I" } : Jvm.MethodName) jdk_37_method_2_code (1 : Nat) (Option.some Jvm.ClassFile.FieldType.int)).before args0 about1 = true := code_word (m := ⟨6, 0⟩) (meth := k6m0) (c := k6c0) (by decide +kernel) rfl rfl rfl (by decide +kernel)
set_option maxRecDepth 65536 in
theorem w_c7 : (Jvm.Cond.code ({ cls := "com/example/sober_links/soberlinks/io/LeftOutItemsTotalPinLaw", name := "pick", desc := "(I)Lcom/example/sober_links/soberlinks/io/LeftOutItems$Reason;" } : Jvm.MethodName) method_2_code (2 : Nat) (Option.some (Jvm.ClassFile.FieldType.object "com/example/sober_links/soberlinks/io/LeftOutItems$Reason"))).before args0 about1 = true := code_word (m := ⟨1, 1⟩) (meth := k1m1) (c := k1c1) (by decide +kernel) rfl rfl rfl (by decide +kernel)
def codes1 : List Jvm.Cond := [Jvm.Cond.code x code maxLocals ret, Jvm.Cond.code ({ cls := "com/example/sober_links/soberlinks/io/LeftOutItems", name := "<init>", desc := "()V" } : Jvm.MethodName) prog_35_method_1_code (1 : Nat) (Option.none : Option Jvm.ClassFile.FieldType), Jvm.Cond.code ({ cls := "java/lang/Object", name := "<init>", desc := "()V" } : Jvm.MethodName) object_method_1_code (1 : Nat) (Option.none : Option Jvm.ClassFile.FieldType), Jvm.Cond.code ({ cls := "com/example/sober_links/soberlinks/io/LeftOutItems$Reason", name := "values", desc := "()[Lcom/example/sober_links/soberlinks/io/LeftOutItems$Reason;" } : Jvm.MethodName) prog_36_method_1_code (0 : Nat) (Option.some (Jvm.ClassFile.FieldType.array (Jvm.ClassFile.FieldType.object "com/example/sober_links/soberlinks/io/LeftOutItems$Reason"))), Jvm.Cond.code ({ cls := "com/example/sober_links/soberlinks/io/LeftOutItems", name := "total", desc := "()I" } : Jvm.MethodName) prog_35_method_3_code (6 : Nat) (Option.some Jvm.ClassFile.FieldType.int), Jvm.Cond.code ({ cls := "com/example/sober_links/soberlinks/io/LeftOutItems", name := "add", desc := "(Lcom/example/sober_links/soberlinks/io/LeftOutItems$Reason;I)V" } : Jvm.MethodName) prog_35_method_5_code (3 : Nat) (Option.none : Option Jvm.ClassFile.FieldType), Jvm.Cond.code ({ cls := "java/lang/Enum", name := "ordinal", desc := "()I" } : Jvm.MethodName) jdk_37_method_2_code (1 : Nat) (Option.some Jvm.ClassFile.FieldType.int), Jvm.Cond.code ({ cls := "com/example/sober_links/soberlinks/io/LeftOutItemsTotalPinLaw", name := "pick", desc := "(I)Lcom/example/sober_links/soberlinks/io/LeftOutItems$Reason;" } : Jvm.MethodName) method_2_code (2 : Nat) (Option.some (Jvm.ClassFile.FieldType.object "com/example/sober_links/soberlinks/io/LeftOutItems$Reason"))]
set_option maxRecDepth 65536 in
theorem codes_eq : words1.filter isCode = codes1 := rfl
theorem w_codes : ∀ c ∈ words1.filter isCode, c.before args0 about1 = true := by
  rw [codes_eq]
  intro c hc
  simp only [codes1, List.mem_cons, List.not_mem_nil, or_false] at hc
  rcases hc with rfl | rfl | rfl | rfl | rfl | rfl | rfl | rfl
  · exact w_c0
  · exact w_c1
  · exact w_c2
  · exact w_c3
  · exact w_c4
  · exact w_c5
  · exact w_c6
  · exact w_c7
set_option maxRecDepth 65536 in
theorem w_t1 : (words1.take 24).all (fun c => isCode c || c.before args0 about1) = true := by decide +kernel
set_option maxRecDepth 65536 in
theorem w_t2 : ((words1.drop 24).take 24).all (fun c => isCode c || c.before args0 about1) = true := by decide +kernel
set_option maxRecDepth 65536 in
theorem w_t3 : ((words1.drop 24).drop 24).all (fun c => isCode c || c.before args0 about1) = true := by decide +kernel
theorem w_tables : (allAtoms (Jvm.Cond.code x code maxLocals ret :: tables_1)).before args0 about1 = true := by
  rw [allAtoms_all]
  show words1.all (fun c => c.before args0 about1) = true
  refine all_split ?_ w_codes
  rw [← List.take_append_drop 24 words1, List.all_append, w_t1, ← List.take_append_drop 24 (words1.drop 24), List.all_append, w_t2, w_t3]
  rfl
set_option maxRecDepth 65536 in
theorem w_case : (Jvm.Cond.and given_1 narrow_1).before args0 about1 = true := by decide +kernel
theorem w_applies : (headSpec (Jvm.Cond.code x code maxLocals ret :: tables_1) room_1).applies x e0.platform about1 = true :=
  (Spec.applies_iff w_frames).mpr ⟨w_running, w_runnable, w_alone, w_named, w_hears, w_ripe, w_room, w_tables⟩
theorem atStart : AtStart classFile x code maxLocals ret World_1 tables_1 room_1 Calls_1 rest_1 Pre_1 launch0 p0 e0 about1 theMethod args0 below0 :=
  ⟨lists_1, trivial, launch0.admits_env _ _ _, launch0.least_env, fairChoices_fair.cas, fairChoices_fair.clock, w_frames, w_args, w_heap, w_applies, trivial, trivial, w_case⟩
end start1
theorem witness_1 : WitnessClaimed_1 := ⟨start1.p0, start1.e0, start1.about1, start1.theMethod, start1.args0, start1.below0, start1.atStart⟩
end Jvm.Pilot.@@N@@
