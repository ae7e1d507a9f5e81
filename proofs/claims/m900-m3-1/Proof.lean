import JvmDerived
import JvmDerived.Pilot.@@N@@Statement
import JvmDerived.Pilot.@@N@@Code
set_option linter.unusedVariables false
set_option linter.unusedSimpArgs false
namespace Jvm.RoadKit
open Sem ClassFile Op Lib Jvm.Stand Jvm.Free Jvm.LawKit
section New
variable {p : Program} {l : Launch} {e : Env} {R : Room} {s : State} {m : MethodId} {args : Array Value} {below : List Frame} {meth : Method} {c : Code} {T : State} {locs : List Loc} {cells slots : Nat}
theorem retI (X : Stand p l e R s m args below meth c T locs cells slots) (hx : p.tables.exec = Jvm.exec) {pc : Nat} {Ls : Array Slot} {z : Int32} {rest : List Value} (hret : meth.sig.returnType = some .int) (hd : decode c.code pc = .ok (.ireturn, 1)) {fs : List Frame}
    (hl : ∀ (f : JFrame) (acts : List Action), f.method = m → f.locked = none → f.entered = [] → (doReturn e (T.setTop f) acts (some (.int z))).1 = T.setFrames fs) : Steps p.tables e below (T.setTop (mkF m pc Ls (.int z :: rest))) (T.setFrames fs) := by
  have hm' : T.vm.method? m = some meth := X.method'
  have hn : narrow .int (.int z) = .int z := rfl
  show Steps p.tables e below (T.setTop { method := m, pc := pc, locals := Ls, stack := _ :: rest, locked := none }) _
  jvm_step X.here [X.here.top, hx, hd, hm', hret, hn]
  first | (intro acts; rw [hl _ acts rfl rfl rfl]) | rw [hl _ _ rfl rfl rfl]
  exact Steps.refl _
end New
end Jvm.RoadKit
namespace Jvm.Pilot.@@N@@
open Jvm Jvm.ClassFile Sem Op Lib Jvm.Free Jvm.Stand Jvm.LawKit Jvm.RoadKit Bundle Jvm.Pilot.@@N@@.Jvm.D
/-! the rest of a run, from the state t on: it comes to an end of which P holds -/
def own_At (p : Program) (e : Env) (below : List Frame) (P : Outcome → State → Prop) (t : State) : Prop := ∃ s₂ o, Steps p.tables e below t s₂ ∧ s₂.status = .running ∧ Ended s₂ below o ∧ P o s₂
theorem own_body {p : Program} {e : Env} {below : List Frame} {P : Outcome → State → Prop} {t : State} (h : ∀ P' : Outcome → State → Prop, (∀ o u, P o u → P' o u) → own_At p e below P' t) : own_At p e below P t := h P fun _ _ q => q
theorem own_st {p : Program} {e : Env} {below : List Frame} {P : Outcome → State → Prop} {t t' : State} (h : ∀ target, Steps p.tables e below t' target → Steps p.tables e below t target) (k : own_At p e below P t') : own_At p e below P t := by
  obtain ⟨s₂, o, h1, h2⟩ := k
  exact ⟨s₂, o, h _ h1, h2⟩
theorem own_tr {p : Program} {e : Env} {below : List Frame} {P : Outcome → State → Prop} {t t' : State} (h : Steps p.tables e below t t') (k : own_At p e below P t') : own_At p e below P t := by
  obtain ⟨s₂, o, h1, h2⟩ := k
  exact ⟨s₂, o, h.trans h1, h2⟩
theorem own_sta {s : State} {a : Array Value} {C n d : String} {z : Int32} (h : (Jvm.Cond.eq (Jvm.Term.static C n d) (Jvm.Term.int z)).value a s none s [] = some true) (hi : (Cond.initializedFor C n d).before a s = true ∨ ((Cond.initialized C).before a s = true ∧ (Cond.laysStatic C n d).before a s = true)) : Sta s s.heap C n d (.int z) := Sta.start (eqv_i rfl h) hi
theorem own_staL {s : State} {a : Array Value} {C n d : String} {z : Int64} (h : (Jvm.Cond.eq (Jvm.Term.static C n d) (Jvm.Term.long z)).value a s none s [] = some true) (hi : (Cond.initializedFor C n d).before a s = true ∨ ((Cond.initialized C).before a s = true ∧ (Cond.laysStatic C n d).before a s = true)) : Sta s s.heap C n d (.long z) := Sta.start (eqv_l rfl h) hi
theorem own_enum {s : State} {a : Array Value} {C n d K : String} (h : (Jvm.Cond.exactly (Jvm.Term.static C n d) K).value a s none s [] = some true) (hi : (Cond.initializedFor C n d).before a s = true ∨ ((Cond.initialized C).before a s = true ∧ (Cond.laysStatic C n d).before a s = true)) : ∃ r : Addr, (Jvm.Term.static C n d).eval a s none [] s = some (.ref r) ∧ Sta s s.heap C n d (.ref r) ∧ Exa s s.heap r K := by
  obtain ⟨r, c', cell, k, e1, -⟩ := Cond.exactly_spec (Cond.before_iff.mpr h)
  exact ⟨r, e1, Sta.start e1 hi, Exa.start e1 h⟩
theorem own_ord {s : State} {a : Array Value} {t : Jvm.Term} {C n d : String} {r : Addr} {z : Int32} (e : t.eval a s none [] s = some (.ref r)) (h : (Jvm.Cond.eq (Jvm.Term.field t C n d) (Jvm.Term.int z)).value a s none s [] = some true) : s.fieldOf? r C n d = some (.int z) := by
  have q := eqv_i (F := Jvm.Term.int z) rfl h
  simpa [Term.eval, e] using q
theorem own_ne {s : State} {r r' : Addr} {C n d : String} {z z' : Int32} (h : s.fieldOf? r C n d = some (.int z)) (h' : s.fieldOf? r' C n d = some (.int z')) (q : z ≠ z') : r ≠ r' := fun e => by
  subst e
  exact q (Value.int.inj (Option.some.inj (h.symm.trans h')))

theorem own_rm1_d0 : decode prog_57_method_4_code 0 = .ok (.aload_n 0, 1) := by decide +kernel
theorem own_rm1_d1 : decode prog_57_method_4_code 1 = .ok (.getstatic 10, 3) := by decide +kernel
theorem own_rm1_d4 : decode prog_57_method_4_code 4 = .ok (.if_acmp .eq 7, 3) := by decide +kernel
theorem own_rm1_d7 : decode prog_57_method_4_code 7 = .ok (.iconst 1, 1) := by decide +kernel
theorem own_rm1_d8 : decode prog_57_method_4_code 8 = .ok (.goto 4, 3) := by decide +kernel
theorem own_rm1_d11 : decode prog_57_method_4_code 11 = .ok (.iconst 0, 1) := by decide +kernel
theorem own_rm1_d12 : decode prog_57_method_4_code 12 = .ok (.ireturn, 1) := by decide +kernel
theorem own_rm1_pn : plainName "com/example/civipay/civipay/model/PensionTreatment" = true := by first | (simp [plainName, overriddenIn]; done) | decide +kernel
theorem own_rm1_ef (m : MethodId) (x0 : Addr) : entryFrame m #[(.ref x0)] 1 = mkF m 0 #[.val (.ref x0)] [] := by first | (simp [entryFrame, mkF, argsToLocals, Value.category]; done) | rfl
def own_rm1_Q (Z : State) (a1 : Addr) (wEMPLOYER_PAID : Addr) (w : Int32) (h0 : Heap) (n0 : Nat) (v : Option Value) (h : Heap) (L : List Loc) : Prop := v = some (.int (w)) ∧ Fr n0 L ∧ h = h0
set_option maxRecDepth 65536 in
set_option maxHeartbeats 40000000 in
theorem own_rm1 (l : Launch) (Z : State) (a0 : Array Value) (hw : ∀ d ∈ tables_1, d.before a0 Z = true) (ws : List Jvm.Cond) (a1 : Addr) (wEMPLOYER_PAID : Addr) (w : Int32) (h0 : Heap) (n0 : Nat) (Z0 : n0 ≤ h0.size) (S_EMPLOYER_PAID : Sta Z h0 "com/example/civipay/civipay/model/PensionTreatment" "EMPLOYER_PAID" "Lcom/example/civipay/civipay/model/PensionTreatment;" (.ref wEMPLOYER_PAID)) (hv : w = if a1 = wEMPLOYER_PAID then (0 : Int32) else (1 : Int32)) :
    MetFree l (⟨"com/example/civipay/civipay/model/PensionTreatment", "isTakenFromPay", "()Z"⟩ : MethodName) (head1 (Jvm.Cond.code (⟨"com/example/civipay/civipay/model/PensionTreatment", "isTakenFromPay", "()Z"⟩ : MethodName) prog_57_method_4_code 1 (some .boolean) :: ws) ({ frames := 0, cells := 0, slots := 0, locals := 0 } : Room)) (fun a U => a = #[(.ref a1)] ∧ Z.Warmed39 U.vm ∧ U.heap = h0) (fun _ _ _ _ _ => True) (fun _ U o U' => ∃ v L, o = .returned v ∧ own_rm1_Q Z a1 wEMPLOYER_PAID w h0 n0 v U'.heap L ∧ FrameEnd U o U' L ({ frames := 0, cells := 0, slots := 0, locals := 0 } : Room).cells ({ frames := 0, cells := 0, slots := 0, locals := 0 } : Room).slots) := by
  refine MetFree.of_bodySF (plainFor_of_name own_rm1_pn) hisR ?_
  intro p e s m args below meth c s₁ Bd hml0 hPre hK
  obtain ⟨rfl, hZ, hh⟩ := hPre
  have hx := Bd.exec
  have hby := Bd.bytes
  have hml : c.maxLocals = 1 := hml0
  have hown : s.vm.findClass "com/example/civipay/civipay/model/PensionTreatment" = some m.cls := findClass_of_methodNamed Bd.named
  have hnm := (name_of_methodNamed Bd.named Bd.method).1
  have X0 : Stand p l e ({ frames := 0, cells := 0, slots := 0, locals := 0 } : Room) s m #[(.ref a1)] below meth c s₁ [] 0 0 := Stand.of_body Bd
  have e0 : s₁.heap = h0 := by rw [← hh, Bd.state]; rfl
  have N0 := Fr.nil n0
  refine own_body fun P hP => ?_
  refine own_st (t' := s₁.setTop (mkF m 0 #[.val (.ref a1)] [])) (fun _ k => castTop (own_rm1_ef m a1) k) ?_
  refine own_st (t' := s₁.setTop (mkF m 1 #[.val (.ref a1)] [(.ref a1)])) (fun _ k => XS.aloadN X0.here hx rfl (hb hby own_rm1_d0) rfl rfl k) ?_
  obtain ⟨T1, X1, e1, st1⟩ := getS2 X0 hx hZ hown (host := "") (Or.inl (hw _ (List.mem_of_getElem? (i := 9) rfl))) Via.refl e0 S_EMPLOYER_PAID (g := (mkF m 1 #[.val (.ref a1)] [(.ref a1)])) rfl (hb hby own_rm1_d1)
  refine own_st (t' := T1.setTop (mkF m 4 #[.val (.ref a1)] [(.ref wEMPLOYER_PAID), (.ref a1)])) st1 ?_
  by_cases c4_2 : a1 = wEMPLOYER_PAID
  · refine own_st (t' := T1.setTop (mkF m 11 #[.val (.ref a1)] [])) (fun _ k => Jvm.RoadKit.acmp (g := (mkF m 4 #[.val (.ref a1)] [(.ref wEMPLOYER_PAID), (.ref a1)])) X1 hx rfl rfl rfl (pc0 := 4) (pc' := 11) (same := true) rfl (hb hby own_rm1_d4) rfl (decide_eq_true (congrArg Value.ref c4_2)) (by decide) (by decide) k) ?_
    refine own_st (t' := T1.setTop (mkF m 12 #[.val (.ref a1)] [(.int (0 : Int32))])) (fun _ k => XS.iconst X1.here hx rfl (hb hby own_rm1_d11) k) ?_
    have hv3 : (0 : Int32) = w := by simp [hv, c4_2]
    obtain ⟨fs, hr, hrun, hended, hW, hsame⟩ := X1.leave (v := some (.int (0 : Int32))) (fun h => by rw [Bd.returns] at h; cases h)
    exact ⟨_, _, retN X1 hx (t := .boolean) Bd.returns (by simp) (hb hby own_rm1_d12) hr, hrun, hended, hP _ _ ⟨_, _, rfl, ⟨(congrArg (fun z => some (Value.int z)) hv3), N0, e1⟩, ⟨_, rfl⟩, hW, hsame.mono (by decide) (by decide)⟩⟩
  · refine own_st (t' := T1.setTop (mkF m 7 #[.val (.ref a1)] [])) (fun _ k => Jvm.RoadKit.acmp (g := (mkF m 4 #[.val (.ref a1)] [(.ref wEMPLOYER_PAID), (.ref a1)])) X1 hx rfl rfl rfl (pc0 := 4) (pc' := 7) (same := false) rfl (hb hby own_rm1_d4) rfl (decide_eq_false fun q => c4_2 (Value.ref.inj q)) (by decide) (by decide) k) ?_
    refine own_st (t' := T1.setTop (mkF m 8 #[.val (.ref a1)] [(.int (1 : Int32))])) (fun _ k => XS.iconst X1.here hx rfl (hb hby own_rm1_d7) k) ?_
    refine own_st (t' := T1.setTop (mkF m 12 #[.val (.ref a1)] [(.int (1 : Int32))])) (fun _ k => XS.goto X1.here hx rfl (pc0 := 8) (pc' := 12) rfl (hb hby own_rm1_d8) (by decide) (by decide) k) ?_
    have hv4 : (1 : Int32) = w := by simp [hv, c4_2]
    obtain ⟨fs, hr, hrun, hended, hW, hsame⟩ := X1.leave (v := some (.int (1 : Int32))) (fun h => by rw [Bd.returns] at h; cases h)
    exact ⟨_, _, retN X1 hx (t := .boolean) Bd.returns (by simp) (hb hby own_rm1_d12) hr, hrun, hended, hP _ _ ⟨_, _, rfl, ⟨(congrArg (fun z => some (Value.int z)) hv4), N0, e1⟩, ⟨_, rfl⟩, hW, hsame.mono (by decide) (by decide)⟩⟩

theorem own_rm0_pn : plainName "com/example/civipay/civipay/model/PensionTreatmentIsTakenFromPayPinLaw" = true := by first | (simp [plainName, overriddenIn]; done) | decide +kernel
theorem own_rm0_pd0 : parseMethodDescriptor "()Z" = some ⟨[], some .boolean⟩ := by decide +kernel
theorem own_rm0_ef (m : MethodId) (x0 : Int32) : entryFrame m #[(.int x0)] maxLocals = mkF m 0 #[.val (.int x0), .unset, .unset, .unset] [] := by first | (simp [entryFrame, mkF, argsToLocals, Value.category, maxLocals]; done) | rfl
def own_rm0_Q (Z : State) (p1 : Int32) (wAFTER_TAX : Addr) (wPRE_TAX : Addr) (wEMPLOYER_PAID : Addr) (h0 : Heap) (n0 : Nat) (v : Option Value) (h : Heap) (L : List Loc) : Prop := v = some (.int ((1 : Int32))) ∧ Fr n0 L
set_option maxRecDepth 65536 in
set_option maxHeartbeats 40000000 in
theorem own_rm0 (l : Launch) (Z : State) (a0 : Array Value) (hw : ∀ d ∈ tables_1, d.before a0 Z = true) (ws : List Jvm.Cond) (p1 : Int32) (wAFTER_TAX : Addr) (wPRE_TAX : Addr) (wEMPLOYER_PAID : Addr) (h0 : Heap) (n0 : Nat) (Z0 : n0 ≤ h0.size) (S_AFTER_TAX : Sta Z h0 "com/example/civipay/civipay/model/PensionTreatment" "AFTER_TAX" "Lcom/example/civipay/civipay/model/PensionTreatment;" (.ref wAFTER_TAX)) (S_PRE_TAX : Sta Z h0 "com/example/civipay/civipay/model/PensionTreatment" "PRE_TAX" "Lcom/example/civipay/civipay/model/PensionTreatment;" (.ref wPRE_TAX)) (S_EMPLOYER_PAID : Sta Z h0 "com/example/civipay/civipay/model/PensionTreatment" "EMPLOYER_PAID" "Lcom/example/civipay/civipay/model/PensionTreatment;" (.ref wEMPLOYER_PAID)) (E_AFTER_TAX : Exa Z h0 wAFTER_TAX "com/example/civipay/civipay/model/PensionTreatment") (E_PRE_TAX : Exa Z h0 wPRE_TAX "com/example/civipay/civipay/model/PensionTreatment") (E_EMPLOYER_PAID : Exa Z h0 wEMPLOYER_PAID "com/example/civipay/civipay/model/PensionTreatment") (hne1 : ¬ wAFTER_TAX = wEMPLOYER_PAID) (hne2 : ¬ wPRE_TAX = wEMPLOYER_PAID) :
    MetFree l x (head1 (Jvm.Cond.code x code maxLocals ret :: ws) room_1) (fun a U => a = #[(.int p1)] ∧ Z.Warmed39 U.vm ∧ U.heap = h0) (fun _ _ _ _ _ => True) (fun _ U o U' => ∃ v L, o = .returned v ∧ own_rm0_Q Z p1 wAFTER_TAX wPRE_TAX wEMPLOYER_PAID h0 n0 v U'.heap L ∧ FrameEnd U o U' L room_1.cells room_1.slots) := by
  refine MetFree.of_bodySF (plainFor_of_name own_rm0_pn) hisR ?_
  intro p e s m args below meth c s₁ Bd hml0 hPre hK
  obtain ⟨rfl, hZ, hh⟩ := hPre
  have hx := Bd.exec
  have hby := Bd.bytes
  have hml : c.maxLocals = 4 := hml0
  have hown : s.vm.findClass "com/example/civipay/civipay/model/PensionTreatmentIsTakenFromPayPinLaw" = some m.cls := findClass_of_methodNamed Bd.named
  have hnm := (name_of_methodNamed Bd.named Bd.method).1
  have X0 : Stand p l e room_1 s m #[(.int p1)] below meth c s₁ [] 0 0 := Stand.of_body Bd
  have e0 : s₁.heap = h0 := by rw [← hh, Bd.state]; rfl
  have N0 := Fr.nil n0
  refine own_body fun P hP => ?_
  refine own_st (t' := s₁.setTop (mkF m 0 #[.val (.int p1), .unset, .unset, .unset] [])) (fun _ k => castTop (own_rm0_ef m p1) k) ?_
  refine own_st (t' := s₁.setTop (mkF m 1 #[.val (.int p1), .unset, .unset, .unset] [(.int p1)])) (fun _ k => XS.iloadN X0.here hx rfl (hb hby at_0) rfl k) ?_
  refine own_st (t' := s₁.setTop (mkF m 3 #[.val (.int p1), .unset, .unset, .unset] [(.int (2147483647 : Int32)), (.int p1)])) (fun _ k => X0.ldcInt hx hown (mvT hZ (hw _ (List.mem_of_getElem? (i := 0) rfl))) (g := (mkF m 1 #[.val (.int p1), .unset, .unset, .unset] [(.int p1)])) rfl (hb hby at_1) _ k) ?_
  refine own_st (t' := s₁.setTop (mkF m 4 #[.val (.int p1), .unset, .unset, .unset] [(.int (p1 &&& (2147483647 : Int32)))])) (fun _ k => XS.iand X0.here hx rfl (hb hby at_3) rfl k) ?_
  refine own_st (t' := s₁.setTop (mkF m 5 #[.val (.int p1), .unset, .unset, .unset] [(.int (3 : Int32)), (.int (p1 &&& (2147483647 : Int32)))])) (fun _ k => XS.iconst X0.here hx rfl (hb hby at_4) k) ?_
  refine own_st (t' := s₁.setTop (mkF m 6 #[.val (.int p1), .unset, .unset, .unset] [(.int ((p1 &&& (2147483647 : Int32)) % (3 : Int32)))])) (fun _ k => iremM (g := (mkF m 5 #[.val (.int p1), .unset, .unset, .unset] [(.int (3 : Int32)), (.int (p1 &&& (2147483647 : Int32)))])) X0 hx rfl (hb hby at_5) rfl (by decide) k) ?_
  refine own_st (t' := s₁.setTop (mkF m 7 #[.val (.int p1), .val (.int ((p1 &&& (2147483647 : Int32)) % (3 : Int32))), .unset, .unset] [])) (fun _ k => XS.istoreN X0.here hx rfl (hb hby at_6) rfl (l' := #[.val (.int p1), .val (.int ((p1 &&& (2147483647 : Int32)) % (3 : Int32))), .unset, .unset]) rfl k) ?_
  generalize g_i : ((p1 &&& (2147483647 : Int32)) % (3 : Int32)) = i
  refine own_st (t' := s₁.setTop (mkF m 8 #[.val (.int p1), .val (.int i), .unset, .unset] [(.int i)])) (fun _ k => XS.iloadN X0.here hx rfl (hb hby at_7) rfl k) ?_
  by_cases c8_1 : i = (0 : Int32)
  · refine own_st (t' := s₁.setTop (mkF m 11 #[.val (.int p1), .val (.int i), .unset, .unset] [])) (fun _ k => XS.ifNo X0.here hx rfl (hb hby at_8) rfl ((if0 _ _).trans (teq c8_1).2) k) ?_
    obtain ⟨T2, X2, e2, st2⟩ := getS2 X0 hx hZ hown (host := "") (Or.inl (hw _ (List.mem_of_getElem? (i := 1) rfl))) Via.refl e0 S_AFTER_TAX (g := (mkF m 11 #[.val (.int p1), .val (.int i), .unset, .unset] [])) rfl (hb hby at_11)
    refine own_st (t' := T2.setTop (mkF m 14 #[.val (.int p1), .val (.int i), .unset, .unset] [(.ref wAFTER_TAX)])) st2 ?_
    refine own_st (t' := T2.setTop (mkF m 15 #[.val (.int p1), .val (.int i), .val (.ref wAFTER_TAX), .unset] [])) (fun _ k => XS.astoreN X2.here hx rfl (hb hby at_14) rfl rfl (l' := #[.val (.int p1), .val (.int i), .val (.ref wAFTER_TAX), .unset]) rfl k) ?_
    refine own_st (t' := T2.setTop (mkF m 16 #[.val (.int p1), .val (.int i), .val (.ref wAFTER_TAX), .unset] [(.int (1 : Int32))])) (fun _ k => XS.iconst X2.here hx rfl (hb hby at_15) k) ?_
    refine own_st (t' := T2.setTop (mkF m 17 #[.val (.int p1), .val (.int i), .val (.ref wAFTER_TAX), .val (.int (1 : Int32))] [])) (fun _ k => XS.istoreN X2.here hx rfl (hb hby at_16) rfl (l' := #[.val (.int p1), .val (.int i), .val (.ref wAFTER_TAX), .val (.int (1 : Int32))]) rfl k) ?_
    refine own_st (t' := T2.setTop (mkF m 40 #[.val (.int p1), .val (.int i), .val (.ref wAFTER_TAX), .val (.int (1 : Int32))] [])) (fun _ k => XS.goto X2.here hx rfl (pc0 := 17) (pc' := 40) rfl (hb hby at_17) (by decide) (by decide) k) ?_
    refine own_st (t' := T2.setTop (mkF m 41 #[.val (.int p1), .val (.int i), .val (.ref wAFTER_TAX), .val (.int (1 : Int32))] [(.ref wAFTER_TAX)])) (fun _ k => XS.aloadN X2.here hx rfl (hb hby at_40) rfl rfl k) ?_
    obtain ⟨cq3, kq3, q3a, q3b, q3c⟩ := isOf hZ e2 E_AFTER_TAX
    obtain ⟨_, _, ⟨T3, L3, k3, n3⟩, -, X3, ⟨Lc3, hQ3, l3, y3, z3⟩, st3⟩ := X2.virtualBack hx (y := (⟨"com/example/civipay/civipay/model/PensionTreatment", "isTakenFromPay", "()Z"⟩ : MethodName)) (z := (⟨"com/example/civipay/civipay/model/PensionTreatment", "isTakenFromPay", "()Z"⟩ : MethodName)) hown (mvT hZ (hw _ (List.mem_of_getElem? (i := 4) rfl))) (mvT hZ (hw _ (List.mem_of_getElem? (i := 5) rfl))) (notFace_of_selects (args := #[]) (mvT hZ (hw _ (List.mem_of_getElem? (i := 7) rfl)))) (mvT hZ (hw _ (List.mem_of_getElem? (i := 7) rfl))) (mvT hZ (hw _ (List.mem_of_getElem? (i := 6) rfl))) (by decide) (backOf (W := 0) (own_rm1 l Z a0 hw [] wAFTER_TAX wEMPLOYER_PAID (1 : Int32) h0 n0 Z0 S_EMPLOYER_PAID ((if_neg hne1).symm)) hZ (hw _ (List.mem_of_getElem? (i := 8) rfl)) (hw _ (List.mem_of_getElem? (i := 2) rfl)) (by decide) (by decide)) q3a q3c (g := (mkF m 41 #[.val (.int p1), .val (.int i), .val (.ref wAFTER_TAX), .val (.int (1 : Int32))] [(.ref wAFTER_TAX)])) rfl (by rw [hml]; rfl) (Steps.refl _) (argsL := []) (rest := []) (lenOf own_rm0_pd0 rfl) rfl (by show 2 * 0 + _ ≤ _; exact Nat.le_of_eq rfl) (hb hby at_41) (fun _ _ => ⟨rfl, e2, (by decide : 0 + 0 ≤ _), (by decide : 0 + 0 ≤ _)⟩)
    dsimp only [Pt.U, Pt.locs, Pt.cells, Pt.slots] at X3 l3 y3 z3 st3 hQ3
    subst l3 y3 z3
    obtain ⟨rfl, N3q, e3⟩ := hQ3
    have N3 := Fr.app N0 N3q
    refine own_tr (t' := T3.setTop (mkF m 44 #[.val (.int p1), .val (.int i), .val (.ref wAFTER_TAX), .val (.int (1 : Int32))] [(.int (1 : Int32))])) st3 ?_
    refine own_st (t' := T3.setTop (mkF m 45 #[.val (.int p1), .val (.int i), .val (.ref wAFTER_TAX), .val (.int (1 : Int32))] [(.int (1 : Int32)), (.int (1 : Int32))])) (fun _ k => XS.iloadN X3.here hx rfl (hb hby at_44) rfl k) ?_
    refine own_st (t' := T3.setTop (mkF m 48 #[.val (.int p1), .val (.int i), .val (.ref wAFTER_TAX), .val (.int (1 : Int32))] [])) (fun _ k => XS.icmpNo X3.here hx rfl (hb hby at_45) rfl (teq (rfl : (1 : Int32) = (1 : Int32))).2 k) ?_
    refine own_st (t' := T3.setTop (mkF m 49 #[.val (.int p1), .val (.int i), .val (.ref wAFTER_TAX), .val (.int (1 : Int32))] [(.int (1 : Int32))])) (fun _ k => XS.iconst X3.here hx rfl (hb hby at_48) k) ?_
    refine own_st (t' := T3.setTop (mkF m 53 #[.val (.int p1), .val (.int i), .val (.ref wAFTER_TAX), .val (.int (1 : Int32))] [(.int (1 : Int32))])) (fun _ k => XS.goto X3.here hx rfl (pc0 := 49) (pc' := 53) rfl (hb hby at_49) (by decide) (by decide) k) ?_
    have hv4 : (1 : Int32) = (1 : Int32) := rfl
    obtain ⟨fs, hr, hrun, hended, hW, hsame⟩ := X3.leave (v := some (.int (1 : Int32))) (fun h => by rw [Bd.returns] at h; cases h)
    exact ⟨_, _, retN X3 hx (t := .boolean) Bd.returns (by simp) (hb hby at_53) hr, hrun, hended, hP _ _ ⟨_, _, rfl, ⟨(congrArg (fun z => some (Value.int z)) hv4), N3⟩, ⟨_, rfl⟩, hW, hsame.mono (by decide) (by decide)⟩⟩
  · refine own_st (t' := s₁.setTop (mkF m 20 #[.val (.int p1), .val (.int i), .unset, .unset] [])) (fun _ k => XS.ifYes X0.here hx rfl (pc0 := 8) (pc' := 20) rfl (hb hby at_8) rfl ((if0 _ _).trans (feq c8_1).2) (by decide) (by decide) k) ?_
    refine own_st (t' := s₁.setTop (mkF m 21 #[.val (.int p1), .val (.int i), .unset, .unset] [(.int i)])) (fun _ k => XS.iloadN X0.here hx rfl (hb hby at_20) rfl k) ?_
    refine own_st (t' := s₁.setTop (mkF m 22 #[.val (.int p1), .val (.int i), .unset, .unset] [(.int (1 : Int32)), (.int i)])) (fun _ k => XS.iconst X0.here hx rfl (hb hby at_21) k) ?_
    by_cases c22_5 : i = (1 : Int32)
    · refine own_st (t' := s₁.setTop (mkF m 25 #[.val (.int p1), .val (.int i), .unset, .unset] [])) (fun _ k => XS.icmpNo X0.here hx rfl (hb hby at_22) rfl (teq c22_5).2 k) ?_
      obtain ⟨T6, X6, e6, st6⟩ := getS2 X0 hx hZ hown (host := "") (Or.inl (hw _ (List.mem_of_getElem? (i := 12) rfl))) Via.refl e0 S_PRE_TAX (g := (mkF m 25 #[.val (.int p1), .val (.int i), .unset, .unset] [])) rfl (hb hby at_25)
      refine own_st (t' := T6.setTop (mkF m 28 #[.val (.int p1), .val (.int i), .unset, .unset] [(.ref wPRE_TAX)])) st6 ?_
      refine own_st (t' := T6.setTop (mkF m 29 #[.val (.int p1), .val (.int i), .val (.ref wPRE_TAX), .unset] [])) (fun _ k => XS.astoreN X6.here hx rfl (hb hby at_28) rfl rfl (l' := #[.val (.int p1), .val (.int i), .val (.ref wPRE_TAX), .unset]) rfl k) ?_
      refine own_st (t' := T6.setTop (mkF m 30 #[.val (.int p1), .val (.int i), .val (.ref wPRE_TAX), .unset] [(.int (1 : Int32))])) (fun _ k => XS.iconst X6.here hx rfl (hb hby at_29) k) ?_
      refine own_st (t' := T6.setTop (mkF m 31 #[.val (.int p1), .val (.int i), .val (.ref wPRE_TAX), .val (.int (1 : Int32))] [])) (fun _ k => XS.istoreN X6.here hx rfl (hb hby at_30) rfl (l' := #[.val (.int p1), .val (.int i), .val (.ref wPRE_TAX), .val (.int (1 : Int32))]) rfl k) ?_
      refine own_st (t' := T6.setTop (mkF m 40 #[.val (.int p1), .val (.int i), .val (.ref wPRE_TAX), .val (.int (1 : Int32))] [])) (fun _ k => XS.goto X6.here hx rfl (pc0 := 31) (pc' := 40) rfl (hb hby at_31) (by decide) (by decide) k) ?_
      refine own_st (t' := T6.setTop (mkF m 41 #[.val (.int p1), .val (.int i), .val (.ref wPRE_TAX), .val (.int (1 : Int32))] [(.ref wPRE_TAX)])) (fun _ k => XS.aloadN X6.here hx rfl (hb hby at_40) rfl rfl k) ?_
      obtain ⟨cq7, kq7, q7a, q7b, q7c⟩ := isOf hZ e6 E_PRE_TAX
      obtain ⟨_, _, ⟨T7, L7, k7, n7⟩, -, X7, ⟨Lc7, hQ7, l7, y7, z7⟩, st7⟩ := X6.virtualBack hx (y := (⟨"com/example/civipay/civipay/model/PensionTreatment", "isTakenFromPay", "()Z"⟩ : MethodName)) (z := (⟨"com/example/civipay/civipay/model/PensionTreatment", "isTakenFromPay", "()Z"⟩ : MethodName)) hown (mvT hZ (hw _ (List.mem_of_getElem? (i := 4) rfl))) (mvT hZ (hw _ (List.mem_of_getElem? (i := 5) rfl))) (notFace_of_selects (args := #[]) (mvT hZ (hw _ (List.mem_of_getElem? (i := 7) rfl)))) (mvT hZ (hw _ (List.mem_of_getElem? (i := 7) rfl))) (mvT hZ (hw _ (List.mem_of_getElem? (i := 6) rfl))) (by decide) (backOf (W := 0) (own_rm1 l Z a0 hw [] wPRE_TAX wEMPLOYER_PAID (1 : Int32) h0 n0 Z0 S_EMPLOYER_PAID ((if_neg hne2).symm)) hZ (hw _ (List.mem_of_getElem? (i := 8) rfl)) (hw _ (List.mem_of_getElem? (i := 2) rfl)) (by decide) (by decide)) q7a q7c (g := (mkF m 41 #[.val (.int p1), .val (.int i), .val (.ref wPRE_TAX), .val (.int (1 : Int32))] [(.ref wPRE_TAX)])) rfl (by rw [hml]; rfl) (Steps.refl _) (argsL := []) (rest := []) (lenOf own_rm0_pd0 rfl) rfl (by show 2 * 0 + _ ≤ _; exact Nat.le_of_eq rfl) (hb hby at_41) (fun _ _ => ⟨rfl, e6, (by decide : 0 + 0 ≤ _), (by decide : 0 + 0 ≤ _)⟩)
      dsimp only [Pt.U, Pt.locs, Pt.cells, Pt.slots] at X7 l7 y7 z7 st7 hQ7
      subst l7 y7 z7
      obtain ⟨rfl, N7q, e7⟩ := hQ7
      have N7 := Fr.app N0 N7q
      refine own_tr (t' := T7.setTop (mkF m 44 #[.val (.int p1), .val (.int i), .val (.ref wPRE_TAX), .val (.int (1 : Int32))] [(.int (1 : Int32))])) st7 ?_
      refine own_st (t' := T7.setTop (mkF m 45 #[.val (.int p1), .val (.int i), .val (.ref wPRE_TAX), .val (.int (1 : Int32))] [(.int (1 : Int32)), (.int (1 : Int32))])) (fun _ k => XS.iloadN X7.here hx rfl (hb hby at_44) rfl k) ?_
      refine own_st (t' := T7.setTop (mkF m 48 #[.val (.int p1), .val (.int i), .val (.ref wPRE_TAX), .val (.int (1 : Int32))] [])) (fun _ k => XS.icmpNo X7.here hx rfl (hb hby at_45) rfl (teq (rfl : (1 : Int32) = (1 : Int32))).2 k) ?_
      refine own_st (t' := T7.setTop (mkF m 49 #[.val (.int p1), .val (.int i), .val (.ref wPRE_TAX), .val (.int (1 : Int32))] [(.int (1 : Int32))])) (fun _ k => XS.iconst X7.here hx rfl (hb hby at_48) k) ?_
      refine own_st (t' := T7.setTop (mkF m 53 #[.val (.int p1), .val (.int i), .val (.ref wPRE_TAX), .val (.int (1 : Int32))] [(.int (1 : Int32))])) (fun _ k => XS.goto X7.here hx rfl (pc0 := 49) (pc' := 53) rfl (hb hby at_49) (by decide) (by decide) k) ?_
      have hv8 : (1 : Int32) = (1 : Int32) := rfl
      obtain ⟨fs, hr, hrun, hended, hW, hsame⟩ := X7.leave (v := some (.int (1 : Int32))) (fun h => by rw [Bd.returns] at h; cases h)
      exact ⟨_, _, retN X7 hx (t := .boolean) Bd.returns (by simp) (hb hby at_53) hr, hrun, hended, hP _ _ ⟨_, _, rfl, ⟨(congrArg (fun z => some (Value.int z)) hv8), N7⟩, ⟨_, rfl⟩, hW, hsame.mono (by decide) (by decide)⟩⟩
    · refine own_st (t' := s₁.setTop (mkF m 34 #[.val (.int p1), .val (.int i), .unset, .unset] [])) (fun _ k => XS.icmpYes X0.here hx rfl (pc0 := 22) (pc' := 34) rfl (hb hby at_22) rfl (feq c22_5).2 (by decide) (by decide) k) ?_
      obtain ⟨T9, X9, e9, st9⟩ := getS2 X0 hx hZ hown (host := "") (Or.inl (hw _ (List.mem_of_getElem? (i := 11) rfl))) Via.refl e0 S_EMPLOYER_PAID (g := (mkF m 34 #[.val (.int p1), .val (.int i), .unset, .unset] [])) rfl (hb hby at_34)
      refine own_st (t' := T9.setTop (mkF m 37 #[.val (.int p1), .val (.int i), .unset, .unset] [(.ref wEMPLOYER_PAID)])) st9 ?_
      refine own_st (t' := T9.setTop (mkF m 38 #[.val (.int p1), .val (.int i), .val (.ref wEMPLOYER_PAID), .unset] [])) (fun _ k => XS.astoreN X9.here hx rfl (hb hby at_37) rfl rfl (l' := #[.val (.int p1), .val (.int i), .val (.ref wEMPLOYER_PAID), .unset]) rfl k) ?_
      refine own_st (t' := T9.setTop (mkF m 39 #[.val (.int p1), .val (.int i), .val (.ref wEMPLOYER_PAID), .unset] [(.int (0 : Int32))])) (fun _ k => XS.iconst X9.here hx rfl (hb hby at_38) k) ?_
      refine own_st (t' := T9.setTop (mkF m 40 #[.val (.int p1), .val (.int i), .val (.ref wEMPLOYER_PAID), .val (.int (0 : Int32))] [])) (fun _ k => XS.istoreN X9.here hx rfl (hb hby at_39) rfl (l' := #[.val (.int p1), .val (.int i), .val (.ref wEMPLOYER_PAID), .val (.int (0 : Int32))]) rfl k) ?_
      refine own_st (t' := T9.setTop (mkF m 41 #[.val (.int p1), .val (.int i), .val (.ref wEMPLOYER_PAID), .val (.int (0 : Int32))] [(.ref wEMPLOYER_PAID)])) (fun _ k => XS.aloadN X9.here hx rfl (hb hby at_40) rfl rfl k) ?_
      obtain ⟨cq10, kq10, q10a, q10b, q10c⟩ := isOf hZ e9 E_EMPLOYER_PAID
      obtain ⟨_, _, ⟨T10, L10, k10, n10⟩, -, X10, ⟨Lc10, hQ10, l10, y10, z10⟩, st10⟩ := X9.virtualBack hx (y := (⟨"com/example/civipay/civipay/model/PensionTreatment", "isTakenFromPay", "()Z"⟩ : MethodName)) (z := (⟨"com/example/civipay/civipay/model/PensionTreatment", "isTakenFromPay", "()Z"⟩ : MethodName)) hown (mvT hZ (hw _ (List.mem_of_getElem? (i := 4) rfl))) (mvT hZ (hw _ (List.mem_of_getElem? (i := 5) rfl))) (notFace_of_selects (args := #[]) (mvT hZ (hw _ (List.mem_of_getElem? (i := 7) rfl)))) (mvT hZ (hw _ (List.mem_of_getElem? (i := 7) rfl))) (mvT hZ (hw _ (List.mem_of_getElem? (i := 6) rfl))) (by decide) (backOf (W := 0) (own_rm1 l Z a0 hw [] wEMPLOYER_PAID wEMPLOYER_PAID (0 : Int32) h0 n0 Z0 S_EMPLOYER_PAID ((if_pos rfl).symm)) hZ (hw _ (List.mem_of_getElem? (i := 8) rfl)) (hw _ (List.mem_of_getElem? (i := 2) rfl)) (by decide) (by decide)) q10a q10c (g := (mkF m 41 #[.val (.int p1), .val (.int i), .val (.ref wEMPLOYER_PAID), .val (.int (0 : Int32))] [(.ref wEMPLOYER_PAID)])) rfl (by rw [hml]; rfl) (Steps.refl _) (argsL := []) (rest := []) (lenOf own_rm0_pd0 rfl) rfl (by show 2 * 0 + _ ≤ _; exact Nat.le_of_eq rfl) (hb hby at_41) (fun _ _ => ⟨rfl, e9, (by decide : 0 + 0 ≤ _), (by decide : 0 + 0 ≤ _)⟩)
      dsimp only [Pt.U, Pt.locs, Pt.cells, Pt.slots] at X10 l10 y10 z10 st10 hQ10
      subst l10 y10 z10
      obtain ⟨rfl, N10q, e10⟩ := hQ10
      have N10 := Fr.app N0 N10q
      refine own_tr (t' := T10.setTop (mkF m 44 #[.val (.int p1), .val (.int i), .val (.ref wEMPLOYER_PAID), .val (.int (0 : Int32))] [(.int (0 : Int32))])) st10 ?_
      refine own_st (t' := T10.setTop (mkF m 45 #[.val (.int p1), .val (.int i), .val (.ref wEMPLOYER_PAID), .val (.int (0 : Int32))] [(.int (0 : Int32)), (.int (0 : Int32))])) (fun _ k => XS.iloadN X10.here hx rfl (hb hby at_44) rfl k) ?_
      refine own_st (t' := T10.setTop (mkF m 48 #[.val (.int p1), .val (.int i), .val (.ref wEMPLOYER_PAID), .val (.int (0 : Int32))] [])) (fun _ k => XS.icmpNo X10.here hx rfl (hb hby at_45) rfl (teq (rfl : (0 : Int32) = (0 : Int32))).2 k) ?_
      refine own_st (t' := T10.setTop (mkF m 49 #[.val (.int p1), .val (.int i), .val (.ref wEMPLOYER_PAID), .val (.int (0 : Int32))] [(.int (1 : Int32))])) (fun _ k => XS.iconst X10.here hx rfl (hb hby at_48) k) ?_
      refine own_st (t' := T10.setTop (mkF m 53 #[.val (.int p1), .val (.int i), .val (.ref wEMPLOYER_PAID), .val (.int (0 : Int32))] [(.int (1 : Int32))])) (fun _ k => XS.goto X10.here hx rfl (pc0 := 49) (pc' := 53) rfl (hb hby at_49) (by decide) (by decide) k) ?_
      have hv11 : (1 : Int32) = (1 : Int32) := rfl
      obtain ⟨fs, hr, hrun, hended, hW, hsame⟩ := X10.leave (v := some (.int (1 : Int32))) (fun h => by rw [Bd.returns] at h; cases h)
      exact ⟨_, _, retN X10 hx (t := .boolean) Bd.returns (by simp) (hb hby at_53) hr, hrun, hended, hP _ _ ⟨_, _, rfl, ⟨(congrArg (fun z => some (Value.int z)) hv11), N10⟩, ⟨_, rfl⟩, hW, hsame.mono (by decide) (by decide)⟩⟩

set_option maxRecDepth 65536 in
set_option maxHeartbeats 40000000 in
theorem comes_1 {Post : Tables → Env → Array Value → State → Outcome → State → Prop} (hpost : ∀ tb e args s v u, (limb_1_1.after args s (.returned v) u = true ∧ limb_1_2.after args s (.returned v) u = true ∧ True) → FrameEnd s (.returned v) u (Jvm.fieldLocs frame_1_writes args s ++ Jvm.arrayLocs frame_1_arrays args s ++ Jvm.staticLocs frame_1_statics s) 0 0 → Post tb e args s (.returned v) u) :
    ArmFor flags0 classFile x code maxLocals ret World_1 tables_1 room_1 Calls_1 rest_1 Pre_1 Post := by
  intro l hfl _ _ p e ha hc hk s m args below hf hA hF happ hP
  obtain ⟨hcalls, hrest, hpre⟩ := hP
  obtain ⟨-, -, -, hnamed, -, -, -, hat⟩ := (Spec.applies_iff hf).mp happ
  obtain ⟨hg, hn⟩ := and_e (Cond.before_iff.mp (show (Jvm.Cond.and given_1 narrow_1).before args s = true from hpre))
  obtain ⟨hcnt, hg0⟩ := and_e hg
  obtain ⟨w0, rfl⟩ : ∃ w0 : Value, args = #[w0] := by
    have hs : args.size = 1 := by simpa [Cond.value, given_1] using hcnt
    obtain ⟨L⟩ := args
    match L, hs with
    | [w0], _ => exact ⟨w0, rfl⟩
  have hw := fun d (hd : d ∈ tables_1) => atoms_spec (ws := Jvm.Cond.code x code maxLocals ret :: tables_1) hat d (List.mem_cons_of_mem _ hd)
  have hfit : Fit s := fun {y c} hc i hi => by
    obtain ⟨ha, rfl⟩ := Array.getElem?_eq_some_iff.mp hc
    have q := List.all_eq_true.mp ((Array.all_eq_true_iff_forall_mem.mp hF) _ (Array.getElem_mem ha)) i (List.mem_range.mpr hi)
    simpa [Array.getElem?_eq_getElem hi] using q
  obtain ⟨i0, ei0⟩ := is_v hg0
  obtain rfl : w0 = (.int i0) := Option.some.inj ei0
  obtain ⟨k0, kr_0⟩ := and_e hn
  obtain ⟨k1, kr_1⟩ := and_e kr_0
  obtain ⟨k2, kr_2⟩ := and_e kr_1
  obtain ⟨k3, kr_3⟩ := and_e kr_2
  obtain ⟨k4, kr_4⟩ := and_e kr_3
  have k5 := kr_4
  obtain ⟨wA, eA, SA, EA⟩ := own_enum k0 (Or.inr ⟨(hw _ (List.mem_of_getElem? (i := 2) rfl)), (hw _ (List.mem_of_getElem? (i := 3) rfl))⟩)
  obtain ⟨wE, eE, SE, EE⟩ := own_enum k1 (Or.inr ⟨(hw _ (List.mem_of_getElem? (i := 2) rfl)), (hw _ (List.mem_of_getElem? (i := 10) rfl))⟩)
  obtain ⟨wP, eP, SP, EP⟩ := own_enum k4 (Or.inr ⟨(hw _ (List.mem_of_getElem? (i := 2) rfl)), (hw _ (List.mem_of_getElem? (i := 13) rfl))⟩)
  have hne1 := own_ne (own_ord eA k2) (own_ord eE k3) (by decide)
  have hne2 := own_ne (own_ord eP k5) (own_ord eE k3) (by decide)
  obtain ⟨n, o, h1, h2, h3, _, L, rfl, ⟨rfl, N⟩, hq⟩ := own_rm0 l s _ hw tables_1 i0 wA wP wE s.heap s.heap.size (Nat.le_refl _) SA SP SE EA EP EE hne1 hne2 p e ha hc hk s m _ below hf ((Spec.applies_iff_loose hf).mp happ).1 ⟨rfl, State.Warmed39.refl s, rfl⟩ trivial
  refine ⟨n, _, h1, h2, h3, hpost _ _ _ _ _ _ ⟨Cond.after_iff.mpr rfl, Cond.after_iff.mpr (eq_i res_at (Term.int_eval (1)) rfl), trivial⟩ ⟨hq.1, hq.2.1, (hq.2.2.sift fun y hy => Or.inr (N y hy)).mono (by decide) (by decide)⟩⟩
theorem main_1_1 : Claimed_1_1 := comes_1 fun _ _ _ _ _ _ h hF => ⟨h.1, hF⟩
theorem main_1_2 : Claimed_1_2 := comes_1 fun _ _ _ _ _ _ h hF => ⟨h.2.1, hF⟩
end Jvm.Pilot.@@N@@
namespace Jvm.Pilot.@@N@@
open Jvm Jvm.ClassFile Sem Op Lib Jvm.Free Jvm.Stand Jvm.Pilot.@@N@@.Jvm.D
/-! MADE BY PROGRAM (witnessworld.py) out of the Statement's table words and the real class files: 10 classes; the members and pool entries that the words name. The judged class is class 1, her method 1. -/
namespace start1
open Jvm.ClassFile
def u (s : String) : CpInfo := .utf8 (stringToUtf16 s)
/-- a pool by its gaps: so many unusable entries, then the entry; so many at the end -/
def gap : Nat → List CpInfo → List CpInfo
  | 0, r => r
  | n + 1, r => .unusable :: gap n r
def poolList (es : List (Nat × CpInfo)) (last : Nat) : List CpInfo := es.foldr (fun e r => gap e.1 (e.2 :: r)) (gap last [])
def pool (es : List (Nat × CpInfo)) (last : Nat) : Array CpInfo := ⟨poolList es last⟩
def fileOf (pool : Array CpInfo) (this : Nat) (attrs : Array Attribute := #[]) (ms : Array MethodInfo := #[]) (fl : Nat := 33) (sup : Nat := 0) (ifs : Array Nat := #[]) (fds : Array FieldInfo := #[]) : ClassFile where
  minorVersion := 0
  majorVersion := 65
  constantPool := pool
  accessFlags := fl
  thisClass := this
  superClass := sup
  interfaces := ifs
  fields := fds
  methods := ms
  attributes := attrs
def plain (name : String) (sup : Option ClassId) : Class where
  name := name
  kind := .ordinary
  loader := none
  accessFlags := 33
  super := sup
  interfaces := #[]
  cf := none
  fields := #[]
  methods := #[]
  instanceTypes := #[]
  staticTypes := #[]
  resolved := #[]
  callSites := []
  init := .initialized
  statics := none
  mirror := none

def pool0 : Array CpInfo := pool [(5, u "<init>"), (0, u "()V"), (1, .class_ 10), (1, u "java/lang/Object")] 113

def k0m0 : Method := { name := "<init>", desc := "()V", sig := { parameters := [], returnType := none }, accessFlags := 1, code := none }
/-- java/lang/Object -/
def k0 : Class := { plain "java/lang/Object" none with
  accessFlags := 33
  interfaces := #[]
  cf := some (fileOf pool0 8 #[] #[{ accessFlags := 1, nameIndex := 5, descriptorIndex := 6, attributes := #[] }] 33 0 #[] #[])
  fields := #[]
  methods := #[k0m0]
  instanceTypes := #[]
  staticTypes := #[]
  resolved := Array.replicate 124 none
  statics := none }

def pool1 : Array CpInfo := pool [(2, .class_ 4), (1, u "java/lang/Object"), (0, u "<init>"), (0, u "()V"), (0, .integer 2147483647), (0, .fieldref 9 10), (0, .class_ 11), (0, .nameAndType 12 13), (0, u "com/example/civipay/civipay/model/PensionTreatment"), (0, u "AFTER_TAX"), (0, u "Lcom/example/civipay/civipay/model/PensionTreatment;"), (0, .fieldref 9 15), (0, .nameAndType 16 13), (0, u "PRE_TAX"), (0, .fieldref 9 18), (0, .nameAndType 19 13), (0, u "EMPLOYER_PAID"), (0, .methodref 9 21), (0, .nameAndType 22 23), (0, u "isTakenFromPay"), (0, u "()Z"), (0, .class_ 25), (0, u "com/example/civipay/civipay/model/PensionTreatmentIsTakenFromPayPinLaw"), (2, u "law"), (0, u "(I)Z")] 3

def k1m0 : Method := { name := "<init>", desc := "()V", sig := { parameters := [], returnType := none }, accessFlags := 1, code := none }
def k1c1 : Code := { maxStack := 2, maxLocals := 4, code := code, exceptionTable := #[], attributes := #[] }
def k1m1 : Method := { name := "law", desc := "(I)Z", sig := { parameters := [.int], returnType := some .boolean }, accessFlags := 9, code := some k1c1 }
/-- com/example/civipay/civipay/model/PensionTreatmentIsTakenFromPayPinLaw -/
def k1 : Class := { plain "com/example/civipay/civipay/model/PensionTreatmentIsTakenFromPayPinLaw" (some 0) with
  accessFlags := 49
  interfaces := #[]
  cf := some (fileOf pool1 24 #[] #[{ accessFlags := 1, nameIndex := 5, descriptorIndex := 6, attributes := #[] }, { accessFlags := 9, nameIndex := 28, descriptorIndex := 29, attributes := #[] }] 49 2 #[] #[])
  fields := #[]
  methods := #[k1m0, k1m1]
  instanceTypes := #[]
  staticTypes := #[]
  resolved := Array.replicate 33 none
  statics := none }

def pool2 : Array CpInfo := pool [(1, .class_ 2), (0, u "java/lang/constant/Constable"), (0, .class_ 4), (0, u "java/lang/Object")] 6

/-- java/lang/constant/Constable -/
def k2 : Class := { plain "java/lang/constant/Constable" (some 0) with
  accessFlags := 1537
  interfaces := #[]
  cf := some (fileOf pool2 1 #[] #[] 1537 3 #[] #[])
  fields := #[]
  methods := #[]
  instanceTypes := #[]
  staticTypes := #[]
  resolved := Array.replicate 11 none
  statics := none }

def pool3 : Array CpInfo := pool [(1, .class_ 2), (0, u "java/lang/Comparable"), (0, .class_ 4), (0, u "java/lang/Object")] 7

/-- java/lang/Comparable -/
def k3 : Class := { plain "java/lang/Comparable" (some 0) with
  accessFlags := 1537
  interfaces := #[]
  cf := some (fileOf pool3 1 #[] #[] 1537 3 #[] #[])
  fields := #[]
  methods := #[]
  instanceTypes := #[]
  staticTypes := #[]
  resolved := Array.replicate 12 none
  statics := none }

def pool4 : Array CpInfo := pool [(1, .class_ 2), (0, u "java/io/Serializable"), (0, .class_ 4), (0, u "java/lang/Object")] 2

/-- java/io/Serializable -/
def k4 : Class := { plain "java/io/Serializable" (some 0) with
  accessFlags := 1537
  interfaces := #[]
  cf := some (fileOf pool4 1 #[] #[] 1537 3 #[] #[])
  fields := #[]
  methods := #[]
  instanceTypes := #[]
  staticTypes := #[]
  resolved := Array.replicate 7 none
  statics := none }

def pool5 : Array CpInfo := pool [(2, .class_ 4), (1, u "java/lang/Enum"), (0, u "name"), (0, u "Ljava/lang/String;"), (2, u "ordinal"), (0, u "I"), (1, .class_ 14), (1, u "java/lang/Object"), (4, u "hash"), (86, .class_ 108), (1, u "java/lang/Enum$EnumDesc"), (2, .class_ 112), (0, u "java/lang/constant/Constable"), (0, .class_ 114), (0, u "java/lang/Comparable"), (0, .class_ 116), (0, u "java/io/Serializable")] 87

/-- java/lang/Enum -/
def k5 : Class := { plain "java/lang/Enum" (some 0) with
  accessFlags := 1057
  interfaces := #[2, 3, 4]
  cf := some (fileOf pool5 2 #[.nestMembers #[106]] #[] 1057 12 #[111, 113, 115] #[{ accessFlags := 18, nameIndex := 5, descriptorIndex := 6, attributes := #[] }, { accessFlags := 18, nameIndex := 9, descriptorIndex := 10, attributes := #[] }, { accessFlags := 2, nameIndex := 19, descriptorIndex := 10, attributes := #[] }])
  fields := #[{ name := "name", type := (.object "java/lang/String"), accessFlags := 18, slot := 0, constantValue := 0 }, { name := "ordinal", type := .int, accessFlags := 18, slot := 1, constantValue := 0 }, { name := "hash", type := .int, accessFlags := 2, slot := 2, constantValue := 0 }]
  methods := #[]
  instanceTypes := #[(.object "java/lang/String"), .int, .int]
  staticTypes := #[]
  resolved := Array.replicate 204 none
  statics := none }

def pool6 : Array CpInfo := pool [(1, .class_ 2), (0, u "com/example/civipay/civipay/model/PensionTreatment"), (2, u "AFTER_TAX"), (0, u "Lcom/example/civipay/civipay/model/PensionTreatment;"), (2, u "PRE_TAX"), (0, .fieldref 1 11), (0, .nameAndType 12 6), (0, u "EMPLOYER_PAID"), (2, u "$VALUES"), (0, u "[Lcom/example/civipay/civipay/model/PensionTreatment;"), (6, .class_ 25), (1, u "java/lang/Enum"), (21, u "isTakenFromPay"), (0, u "()Z")] 5

def k6c0 : Code := { maxStack := 2, maxLocals := 1, code := prog_57_method_4_code, exceptionTable := #[], attributes := #[] }
def k6m0 : Method := { name := "isTakenFromPay", desc := "()Z", sig := { parameters := [], returnType := some .boolean }, accessFlags := 1, code := some k6c0 }
/-- com/example/civipay/civipay/model/PensionTreatment -/
def k6 : Class := { plain "com/example/civipay/civipay/model/PensionTreatment" (some 5) with
  accessFlags := 16433
  interfaces := #[]
  cf := some (fileOf pool6 1 #[] #[{ accessFlags := 1, nameIndex := 47, descriptorIndex := 48, attributes := #[] }] 16433 23 #[] #[{ accessFlags := 16409, nameIndex := 5, descriptorIndex := 6, attributes := #[] }, { accessFlags := 16409, nameIndex := 9, descriptorIndex := 6, attributes := #[] }, { accessFlags := 16409, nameIndex := 12, descriptorIndex := 6, attributes := #[] }, { accessFlags := 4122, nameIndex := 15, descriptorIndex := 16, attributes := #[] }])
  fields := #[{ name := "AFTER_TAX", type := (.object "com/example/civipay/civipay/model/PensionTreatment"), accessFlags := 16409, slot := 0, constantValue := 0 }, { name := "PRE_TAX", type := (.object "com/example/civipay/civipay/model/PensionTreatment"), accessFlags := 16409, slot := 1, constantValue := 0 }, { name := "EMPLOYER_PAID", type := (.object "com/example/civipay/civipay/model/PensionTreatment"), accessFlags := 16409, slot := 2, constantValue := 0 }, { name := "$VALUES", type := (.array (.object "com/example/civipay/civipay/model/PensionTreatment")), accessFlags := 4122, slot := 3, constantValue := 0 }]
  methods := #[k6m0]
  instanceTypes := #[(.object "java/lang/String"), .int, .int]
  staticTypes := #[(.object "com/example/civipay/civipay/model/PensionTreatment"), (.object "com/example/civipay/civipay/model/PensionTreatment"), (.object "com/example/civipay/civipay/model/PensionTreatment"), (.array (.object "com/example/civipay/civipay/model/PensionTreatment"))]
  resolved := Array.replicate 54 none
  statics := some 0 }

def pool7 : Array CpInfo := pool [(1, u "java/lang/Cloneable"), (0, .class_ 1), (0, u "java/lang/Object"), (0, .class_ 3)] 3

/-- java/lang/Cloneable -/
def k7 : Class := { plain "java/lang/Cloneable" (some 0) with
  accessFlags := 1537
  interfaces := #[]
  cf := some (fileOf pool7 2 #[] #[] 1537 4 #[] #[])
  fields := #[]
  methods := #[]
  instanceTypes := #[]
  staticTypes := #[]
  resolved := Array.replicate 8 none
  statics := none }

/-- the primitive byte -/
def k8 : Class := { plain "byte" none with kind := .primitive 'B', accessFlags := 0x411 }
/-- [B -/
def k9 : Class := { plain "[B" (some 0) with kind := .array 8 .byte, interfaces := #[7, 4], accessFlags := 1041 }

def heap : Heap := #[{ cls := 6, slots := #[.ref 1, .ref 2, .ref 3, .null], vm := .statics 6 },
  { cls := 6, slots := #[.null, .int 0, .int 0], vm := .none },
  { cls := 6, slots := #[.null, .int 1, .int 0], vm := .none },
  { cls := 6, slots := #[.null, .int 2, .int 0], vm := .none }]
def classes : Array Class := #[k0, k1, k2, k3, k4, k5, k6, k7, k8, k9]
def interned : List (Array UInt16 × Addr) := []
def slotsUsed : Nat := 13
def theMethod : MethodId := ⟨1, 1⟩
def args0 : Array Value := #[.int 5]
def aboutOver (below : List Frame) : State where
  vm := { classes := classes, interned := interned.toArray }
  heap := heap
  slotsUsed := slotsUsed
  threads := #[{ frames := .invoking theMethod args0 :: below }]
def below0 : List Frame := [.native { method := ⟨0, 0⟩, args := #[] }]
def about1 : State := aboutOver below0
def p0 : Program := .bare "" "" ""
def e0 : Env := launch0.env 0 0 0
theorem w_frames : about1.frames = Frame.invoking theMethod args0 :: below0 := rfl
set_option maxRecDepth 65536 in
theorem w_args : argsFit about1.vm theMethod args0 = true := by decide +kernel
set_option maxRecDepth 65536 in
theorem w_heap : heapFits about1 = true := by decide +kernel
set_option maxRecDepth 65536 in
theorem w_runnable : about1.curStatus? = some .runnable := by decide +kernel
set_option maxRecDepth 65536 in
theorem w_alone : about1.alone = true := by decide +kernel
set_option maxRecDepth 65536 in
theorem w_named : about1.methodNamed? x = some theMethod := by decide +kernel
set_option maxRecDepth 65536 in
theorem w_hears : about1.hears theMethod below0 = true := by decide +kernel
set_option maxRecDepth 65536 in
theorem w_ripe : about1.ripe theMethod args0 below0 = true := by decide +kernel
theorem w_running : about1.status = .running := rfl
set_option maxRecDepth 65536 in
theorem w_room : about1.hasRoom e0.platform room_1 = true :=
  launch0.hasRoom_least _ room_1 (by decide +kernel) (by decide +kernel) (by decide +kernel) (by decide +kernel) (by decide +kernel) (by decide +kernel)
theorem allAtoms_all (ts : List Jvm.Cond) (a : Array Jvm.Value) (st : Jvm.State) : (allAtoms ts).before a st = ts.all (fun c => c.before a st) := by
  induction ts with
  | nil => rfl
  | cons c t ih =>
    show (Jvm.Cond.and c (allAtoms t)).before a st = _
    rw [Jvm.Cond.before_and, ih, List.all_cons]
def words1 : List Jvm.Cond := Jvm.Cond.code x code maxLocals ret :: tables_1
/-- a 'code' word, met by the world's own term for the bytes: nothing is compared byte by byte -/
theorem code_word {y : MethodName} {bytes : ByteArray} {mx : Nat} {rt : Option FieldType} {a : Array Value} {s : State} {m : MethodId} {meth : Method} {c : Code} (h1 : s.methodNamed? y = some m) (h2 : s.vm.method? m = some meth) (h3 : meth.code = some c) (h4 : c.code = bytes)
    (h5 : (c.maxLocals == mx && c.exceptionTable.isEmpty && decide (c.maxStack ≤ mostOperands) && decide (meth.sig.returnType = rt) && !meth.locks && decide (parseMethodDescriptor y.desc = some meth.sig)) = true) : (Jvm.Cond.code y bytes mx rt).before a s = true := by
  simp only [Bool.and_eq_true, beq_iff_eq, Bool.not_eq_true', decide_eq_true_eq] at h5
  obtain ⟨⟨⟨⟨⟨g1, g2⟩, g3⟩, g4⟩, g5⟩, g6⟩ := h5
  simp [Cond.before, Cond.holds, Cond.value, h1, h2, h3, h4, g1, g2, g3, g4, g5, g6]
def isCode : Jvm.Cond → Bool
  | .code _ _ _ _ => true
  | _ => false
theorem all_split {L : List Jvm.Cond} {P : Jvm.Cond → Bool} (h1 : L.all (fun c => isCode c || P c) = true) (h2 : ∀ c ∈ L.filter isCode, P c = true) : L.all P = true := by
  refine List.all_eq_true.mpr fun c hc => ?_
  have h := List.all_eq_true.mp h1 c hc
  rcases Bool.eq_false_or_eq_true (isCode c) with hi | hi
  · exact h2 c (List.mem_filter.mpr ⟨hc, hi⟩)
  · simpa [hi] using h
set_option maxRecDepth 65536 in
theorem w_c0 : (Jvm.Cond.code x code maxLocals ret).before args0 about1 = true := code_word (m := ⟨1, 1⟩) (meth := k1m1) (c := k1c1) (by decide +kernel) rfl rfl rfl (by decide +kernel)
set_option maxRecDepth 65536 in
theorem w_c1 : (Jvm.Cond.code ({ cls := "com/example/civipay/civipay/model/PensionTreatment", name := "isTakenFromPay", desc := "()Z" } : Jvm.MethodName) prog_57_method_4_code (1 : Nat) (Option.some Jvm.ClassFile.FieldType.boolean)).before args0 about1 = true := code_word (m := ⟨6, 0⟩) (meth := k6m0) (c := k6c0) (by decide +kernel) rfl rfl rfl (by decide +kernel)
def codes1 : List Jvm.Cond := [Jvm.Cond.code x code maxLocals ret, Jvm.Cond.code ({ cls := "com/example/civipay/civipay/model/PensionTreatment", name := "isTakenFromPay", desc := "()Z" } : Jvm.MethodName) prog_57_method_4_code (1 : Nat) (Option.some Jvm.ClassFile.FieldType.boolean)]
set_option maxRecDepth 65536 in
theorem codes_eq : words1.filter isCode = codes1 := rfl
theorem w_codes : ∀ c ∈ words1.filter isCode, c.before args0 about1 = true := by
  rw [codes_eq]
  intro c hc
  simp only [codes1, List.mem_cons, List.not_mem_nil, or_false] at hc
  rcases hc with rfl | rfl
  · exact w_c0
  · exact w_c1
set_option maxRecDepth 65536 in
theorem w_t1 : words1.all (fun c => isCode c || c.before args0 about1) = true := by decide +kernel
theorem w_tables : (allAtoms (Jvm.Cond.code x code maxLocals ret :: tables_1)).before args0 about1 = true := by
  rw [allAtoms_all]
  show words1.all (fun c => c.before args0 about1) = true
  refine all_split ?_ w_codes
  rw [w_t1]
set_option maxRecDepth 65536 in
theorem w_case : (Jvm.Cond.and given_1 narrow_1).before args0 about1 = true := by decide +kernel
theorem w_applies : (headSpec (Jvm.Cond.code x code maxLocals ret :: tables_1) room_1).applies x e0.platform about1 = true :=
  (Spec.applies_iff w_frames).mpr ⟨w_running, w_runnable, w_alone, w_named, w_hears, w_ripe, w_room, w_tables⟩
theorem atStart : AtStart classFile x code maxLocals ret World_1 tables_1 room_1 Calls_1 rest_1 Pre_1 launch0 p0 e0 about1 theMethod args0 below0 :=
  ⟨lists_1, trivial, launch0.admits_env _ _ _, launch0.least_env, fairChoices_fair.cas, fairChoices_fair.clock, w_frames, w_args, w_heap, w_applies, trivial, trivial, w_case⟩
end start1
theorem witness_1 : WitnessClaimed_1 := ⟨start1.p0, start1.e0, start1.about1, start1.theMethod, start1.args0, start1.below0, start1.atStart⟩
end Jvm.Pilot.@@N@@
