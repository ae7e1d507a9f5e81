import JvmDerived
import JvmDerived.Pilot.@@N@@Statement
import JvmDerived.Pilot.@@N@@Code
set_option linter.unusedVariables false
set_option linter.unusedSimpArgs false
@@BLOCK:NumsL.lean.txt@@
namespace Jvm.RoadKit
open Sem ClassFile Op Lib Jvm.Stand Jvm.Free Jvm.LawKit
section New
variable {p : Program} {l : Launch} {e : Env} {R : Room} {s : State} {m : MethodId} {args : Array Value} {below : List Frame} {meth : Method} {c : Code} {T : State} {locs : List Loc} {cells slots : Nat}
theorem retI (X : Stand p l e R s m args below meth c T locs cells slots) (hx : p.tables.exec = Jvm.exec) {pc : Nat} {Ls : Array Slot} {z : Int32} {rest : List Value} (hret : meth.sig.returnType = some .int) (hd : decode c.code pc = .ok (.ireturn, 1)) {fs : List Frame}
    (hl : ∀ (f : JFrame) (acts : List Action), f.method = m → f.locked = none → f.entered = [] → (doReturn e (T.setTop f) acts (some (.int z))).1 = T.setFrames fs) : Steps p.tables e below (T.setTop (mkF m pc Ls (.int z :: rest))) (T.setFrames fs) := by
  have hm' : T.vm.method? m = some meth := X.method'
  have hn : narrow .int (.int z) = .int z := rfl
  show Steps p.tables e below (T.setTop { method := m, pc := pc, locals := Ls, stack := _ :: rest, locked := none }) _
  jvm_step X.here [X.here.top, hx, hd, hm', hret, hn]
  first | (intro acts; rw [hl _ acts rfl rfl rfl]) | rw [hl _ _ rfl rfl rfl]
  exact Steps.refl _
end New
end Jvm.RoadKit
namespace Jvm.Pilot.@@N@@
open Jvm Jvm.ClassFile Sem Op Lib Jvm.Free Jvm.Stand Jvm.LawKit Jvm.RoadKit Bundle Jvm.Pilot.@@N@@.Jvm.D
/-! the rest of a run, from the state t on: it comes to an end of which P holds -/
def own_At (p : Program) (e : Env) (below : List Frame) (P : Outcome → State → Prop) (t : State) : Prop := ∃ s₂ o, Steps p.tables e below t s₂ ∧ s₂.status = .running ∧ Ended s₂ below o ∧ P o s₂
theorem own_body {p : Program} {e : Env} {below : List Frame} {P : Outcome → State → Prop} {t : State} (h : ∀ P' : Outcome → State → Prop, (∀ o u, P o u → P' o u) → own_At p e below P' t) : own_At p e below P t := h P fun _ _ q => q
theorem own_st {p : Program} {e : Env} {below : List Frame} {P : Outcome → State → Prop} {t t' : State} (h : ∀ target, Steps p.tables e below t' target → Steps p.tables e below t target) (k : own_At p e below P t') : own_At p e below P t := by
  obtain ⟨s₂, o, h1, h2⟩ := k
  exact ⟨s₂, o, h _ h1, h2⟩
theorem own_tr {p : Program} {e : Env} {below : List Frame} {P : Outcome → State → Prop} {t t' : State} (h : Steps p.tables e below t t') (k : own_At p e below P t') : own_At p e below P t := by
  obtain ⟨s₂, o, h1, h2⟩ := k
  exact ⟨s₂, o, h.trans h1, h2⟩
theorem own_sta {s : State} {a : Array Value} {C n d : String} {z : Int32} (h : (Jvm.Cond.eq (Jvm.Term.static C n d) (Jvm.Term.int z)).value a s none s [] = some true) (hi : (Cond.initializedFor C n d).before a s = true ∨ ((Cond.initialized C).before a s = true ∧ (Cond.laysStatic C n d).before a s = true)) : Sta s s.heap C n d (.int z) := Sta.start (eqv_i rfl h) hi
theorem own_staL {s : State} {a : Array Value} {C n d : String} {z : Int64} (h : (Jvm.Cond.eq (Jvm.Term.static C n d) (Jvm.Term.long z)).value a s none s [] = some true) (hi : (Cond.initializedFor C n d).before a s = true ∨ ((Cond.initialized C).before a s = true ∧ (Cond.laysStatic C n d).before a s = true)) : Sta s s.heap C n d (.long z) := Sta.start (eqv_l rfl h) hi
theorem own_enum {s : State} {a : Array Value} {C n d K : String} (h : (Jvm.Cond.exactly (Jvm.Term.static C n d) K).value a s none s [] = some true) (hi : (Cond.initializedFor C n d).before a s = true ∨ ((Cond.initialized C).before a s = true ∧ (Cond.laysStatic C n d).before a s = true)) : ∃ r : Addr, (Jvm.Term.static C n d).eval a s none [] s = some (.ref r) ∧ Sta s s.heap C n d (.ref r) ∧ Exa s s.heap r K := by
  obtain ⟨r, c', cell, k, e1, -⟩ := Cond.exactly_spec (Cond.before_iff.mpr h)
  exact ⟨r, e1, Sta.start e1 hi, Exa.start e1 h⟩
theorem own_ord {s : State} {a : Array Value} {t : Jvm.Term} {C n d : String} {r : Addr} {z : Int32} (e : t.eval a s none [] s = some (.ref r)) (h : (Jvm.Cond.eq (Jvm.Term.field t C n d) (Jvm.Term.int z)).value a s none s [] = some true) : s.fieldOf? r C n d = some (.int z) := by
  have q := eqv_i (F := Jvm.Term.int z) rfl h
  simpa [Term.eval, e] using q
theorem own_ne {s : State} {r r' : Addr} {C n d : String} {z z' : Int32} (h : s.fieldOf? r C n d = some (.int z)) (h' : s.fieldOf? r' C n d = some (.int z')) (q : z ≠ z') : r ≠ r' := fun e => by
  subst e
  exact q (Value.int.inj (Option.some.inj (h.symm.trans h')))

theorem own_rem7 (x : Int32) : (x &&& (2147483647 : Int32)) % (7 : Int32) = 0 ∨ (x &&& (2147483647 : Int32)) % (7 : Int32) = 1 ∨ (x &&& (2147483647 : Int32)) % (7 : Int32) = 2 ∨ (x &&& (2147483647 : Int32)) % (7 : Int32) = 3 ∨ (x &&& (2147483647 : Int32)) % (7 : Int32) = 4 ∨ (x &&& (2147483647 : Int32)) % (7 : Int32) = 5 ∨ (x &&& (2147483647 : Int32)) % (7 : Int32) = 6 := by
  have e1 : (x &&& (2147483647 : Int32)).toInt = x.toInt % 2 ^ 31 := Jvm.Kit.i32_mask x 2147483647 (k := 31) (by decide) (by decide)
  have e2 : ((x &&& (2147483647 : Int32)) % (7 : Int32)).toInt = (x.toInt % 2147483648) % 7 := by
    rw [Int32.toInt_mod, e1, Int.tmod_eq_emod_of_nonneg (by omega)]; rfl
  generalize (x &&& (2147483647 : Int32)) % (7 : Int32) = k at e2
  simp only [← Int32.toInt_inj]
  have h0 : (0 : Int32).toInt = 0 := rfl
  have h1 : (1 : Int32).toInt = 1 := rfl
  have h2 : (2 : Int32).toInt = 2 := rfl
  have h3 : (3 : Int32).toInt = 3 := rfl
  have h4 : (4 : Int32).toInt = 4 := rfl
  have h5 : (5 : Int32).toInt = 5 := rfl
  have h6 : (6 : Int32).toInt = 6 := rfl
  rw [h0, h1, h2, h3, h4, h5, h6]
  omega

theorem own_rm1_d0 : decode method_2_code 0 = .ok (.iload_n 0, 1) := by decide +kernel
theorem own_rm1_d1 : decode method_2_code 1 = .ok (.ifCond .ne 7, 3) := by decide +kernel
theorem own_rm1_d4 : decode method_2_code 4 = .ok (.getstatic 7, 3) := by decide +kernel
theorem own_rm1_d7 : decode method_2_code 7 = .ok (.areturn, 1) := by decide +kernel
theorem own_rm1_d8 : decode method_2_code 8 = .ok (.iload_n 0, 1) := by decide +kernel
theorem own_rm1_d9 : decode method_2_code 9 = .ok (.iconst 1, 1) := by decide +kernel
theorem own_rm1_d10 : decode method_2_code 10 = .ok (.if_icmp .ne 7, 3) := by decide +kernel
theorem own_rm1_d13 : decode method_2_code 13 = .ok (.getstatic 13, 3) := by decide +kernel
theorem own_rm1_d16 : decode method_2_code 16 = .ok (.areturn, 1) := by decide +kernel
theorem own_rm1_d17 : decode method_2_code 17 = .ok (.iload_n 0, 1) := by decide +kernel
theorem own_rm1_d18 : decode method_2_code 18 = .ok (.iconst 2, 1) := by decide +kernel
theorem own_rm1_d19 : decode method_2_code 19 = .ok (.if_icmp .ne 7, 3) := by decide +kernel
theorem own_rm1_d22 : decode method_2_code 22 = .ok (.getstatic 16, 3) := by decide +kernel
theorem own_rm1_d25 : decode method_2_code 25 = .ok (.areturn, 1) := by decide +kernel
theorem own_rm1_d26 : decode method_2_code 26 = .ok (.iload_n 0, 1) := by decide +kernel
theorem own_rm1_d27 : decode method_2_code 27 = .ok (.iconst 3, 1) := by decide +kernel
theorem own_rm1_d28 : decode method_2_code 28 = .ok (.if_icmp .ne 7, 3) := by decide +kernel
theorem own_rm1_d31 : decode method_2_code 31 = .ok (.getstatic 19, 3) := by decide +kernel
theorem own_rm1_d34 : decode method_2_code 34 = .ok (.areturn, 1) := by decide +kernel
theorem own_rm1_d35 : decode method_2_code 35 = .ok (.iload_n 0, 1) := by decide +kernel
theorem own_rm1_d36 : decode method_2_code 36 = .ok (.iconst 4, 1) := by decide +kernel
theorem own_rm1_d37 : decode method_2_code 37 = .ok (.if_icmp .ne 7, 3) := by decide +kernel
theorem own_rm1_d40 : decode method_2_code 40 = .ok (.getstatic 22, 3) := by decide +kernel
theorem own_rm1_d43 : decode method_2_code 43 = .ok (.areturn, 1) := by decide +kernel
theorem own_rm1_d44 : decode method_2_code 44 = .ok (.iload_n 0, 1) := by decide +kernel
theorem own_rm1_d45 : decode method_2_code 45 = .ok (.iconst 5, 1) := by decide +kernel
theorem own_rm1_d46 : decode method_2_code 46 = .ok (.if_icmp .ne 7, 3) := by decide +kernel
theorem own_rm1_d49 : decode method_2_code 49 = .ok (.getstatic 25, 3) := by decide +kernel
theorem own_rm1_d52 : decode method_2_code 52 = .ok (.areturn, 1) := by decide +kernel
theorem own_rm1_d53 : decode method_2_code 53 = .ok (.getstatic 28, 3) := by decide +kernel
theorem own_rm1_d56 : decode method_2_code 56 = .ok (.areturn, 1) := by decide +kernel
theorem own_rm1_pn : plainName "com/example/ledgerwarden/ledgerwarden/StatusSaysAbsentPinLaw" = true := by first | (simp [plainName, overriddenIn]; done) | decide +kernel
theorem own_rm1_ef (m : MethodId) (x0 : Int32) : entryFrame m #[(.int x0)] 1 = mkF m 0 #[.val (.int x0)] [] := by first | (simp [entryFrame, mkF, argsToLocals, Value.category]; done) | rfl
def own_rm1_Q (Z : State) (p1 : Int32) (wOK : Addr) (wNO_SUCH_ENTRY : Addr) (wNO_SUCH_LEDGER : Addr) (wBAD_REQUEST : Addr) (wERROR : Addr) (wFENCED : Addr) (wUNKNOWN : Addr) (w : Addr) (h0 : Heap) (n0 : Nat) (v : Option Value) (h : Heap) (L : List Loc) : Prop := v = some (.ref (w)) ∧ Fr n0 L ∧ h = h0
set_option maxRecDepth 65536 in
set_option maxHeartbeats 40000000 in
theorem own_rm1 (l : Launch) (Z : State) (a0 : Array Value) (hw : ∀ d ∈ tables_1, d.before a0 Z = true) (ws : List Jvm.Cond) (p1 : Int32) (wOK : Addr) (wNO_SUCH_ENTRY : Addr) (wNO_SUCH_LEDGER : Addr) (wBAD_REQUEST : Addr) (wERROR : Addr) (wFENCED : Addr) (wUNKNOWN : Addr) (w : Addr) (h0 : Heap) (n0 : Nat) (Z0 : n0 ≤ h0.size) (S_OK : Sta Z h0 "com/example/ledgerwarden/ledgerwarden/Protocol$Status" "OK" "Lcom/example/ledgerwarden/ledgerwarden/Protocol$Status;" (.ref wOK)) (S_NO_SUCH_ENTRY : Sta Z h0 "com/example/ledgerwarden/ledgerwarden/Protocol$Status" "NO_SUCH_ENTRY" "Lcom/example/ledgerwarden/ledgerwarden/Protocol$Status;" (.ref wNO_SUCH_ENTRY)) (S_NO_SUCH_LEDGER : Sta Z h0 "com/example/ledgerwarden/ledgerwarden/Protocol$Status" "NO_SUCH_LEDGER" "Lcom/example/ledgerwarden/ledgerwarden/Protocol$Status;" (.ref wNO_SUCH_LEDGER)) (S_BAD_REQUEST : Sta Z h0 "com/example/ledgerwarden/ledgerwarden/Protocol$Status" "BAD_REQUEST" "Lcom/example/ledgerwarden/ledgerwarden/Protocol$Status;" (.ref wBAD_REQUEST)) (S_ERROR : Sta Z h0 "com/example/ledgerwarden/ledgerwarden/Protocol$Status" "ERROR" "Lcom/example/ledgerwarden/ledgerwarden/Protocol$Status;" (.ref wERROR)) (S_FENCED : Sta Z h0 "com/example/ledgerwarden/ledgerwarden/Protocol$Status" "FENCED" "Lcom/example/ledgerwarden/ledgerwarden/Protocol$Status;" (.ref wFENCED)) (S_UNKNOWN : Sta Z h0 "com/example/ledgerwarden/ledgerwarden/Protocol$Status" "UNKNOWN" "Lcom/example/ledgerwarden/ledgerwarden/Protocol$Status;" (.ref wUNKNOWN)) (hv : w = if p1 = (0 : Int32) then wOK else if p1 = (1 : Int32) then wNO_SUCH_ENTRY else if p1 = (2 : Int32) then wNO_SUCH_LEDGER else if p1 = (3 : Int32) then wBAD_REQUEST else if p1 = (4 : Int32) then wERROR else if p1 = (5 : Int32) then wFENCED else wUNKNOWN) :
    MetFree l (⟨"com/example/ledgerwarden/ledgerwarden/StatusSaysAbsentPinLaw", "pick", "(I)Lcom/example/ledgerwarden/ledgerwarden/Protocol$Status;"⟩ : MethodName) (head1 (Jvm.Cond.code (⟨"com/example/ledgerwarden/ledgerwarden/StatusSaysAbsentPinLaw", "pick", "(I)Lcom/example/ledgerwarden/ledgerwarden/Protocol$Status;"⟩ : MethodName) method_2_code 1 (some (.object "com/example/ledgerwarden/ledgerwarden/Protocol$Status")) :: ws) ({ frames := 0, cells := 0, slots := 0, locals := 0 } : Room)) (fun a U => a = #[(.int p1)] ∧ Z.Warmed39 U.vm ∧ U.heap = h0) (fun _ _ _ _ _ => True) (fun _ U o U' => ∃ v L, o = .returned v ∧ own_rm1_Q Z p1 wOK wNO_SUCH_ENTRY wNO_SUCH_LEDGER wBAD_REQUEST wERROR wFENCED wUNKNOWN w h0 n0 v U'.heap L ∧ FrameEnd U o U' L ({ frames := 0, cells := 0, slots := 0, locals := 0 } : Room).cells ({ frames := 0, cells := 0, slots := 0, locals := 0 } : Room).slots) := by
  refine MetFree.of_bodySF (plainFor_of_name own_rm1_pn) hisR ?_
  intro p e s m args below meth c s₁ Bd hml0 hPre hK
  obtain ⟨rfl, hZ, hh⟩ := hPre
  have hx := Bd.exec
  have hby := Bd.bytes
  have hml : c.maxLocals = 1 := hml0
  have hown : s.vm.findClass "com/example/ledgerwarden/ledgerwarden/StatusSaysAbsentPinLaw" = some m.cls := findClass_of_methodNamed Bd.named
  have hnm := (name_of_methodNamed Bd.named Bd.method).1
  have X0 : Stand p l e ({ frames := 0, cells := 0, slots := 0, locals := 0 } : Room) s m #[(.int p1)] below meth c s₁ [] 0 0 := Stand.of_body Bd
  have e0 : s₁.heap = h0 := by rw [← hh, Bd.state]; rfl
  have N0 := Fr.nil n0
  refine own_body fun P hP => ?_
  refine own_st (t' := s₁.setTop (mkF m 0 #[.val (.int p1)] [])) (fun _ k => castTop (own_rm1_ef m p1) k) ?_
  refine own_st (t' := s₁.setTop (mkF m 1 #[.val (.int p1)] [(.int p1)])) (fun _ k => XS.iloadN X0.here hx rfl (hb hby own_rm1_d0) rfl k) ?_
  by_cases c1_1 : p1 = (0 : Int32)
  · refine own_st (t' := s₁.setTop (mkF m 4 #[.val (.int p1)] [])) (fun _ k => XS.ifNo X0.here hx rfl (hb hby own_rm1_d1) rfl ((if0 _ _).trans (teq c1_1).2) k) ?_
    obtain ⟨T2, X2, e2, st2⟩ := getS2 X0 hx hZ hown (host := "") (Or.inl (hw _ (List.mem_of_getElem? (i := 5) rfl))) Via.refl e0 S_OK (g := (mkF m 4 #[.val (.int p1)] [])) rfl (hb hby own_rm1_d4)
    refine own_st (t' := T2.setTop (mkF m 7 #[.val (.int p1)] [(.ref wOK)])) st2 ?_
    have hv3 : wOK = w := by rw [hv, if_pos c1_1]
    obtain ⟨fs, hr, hrun, hended, hW, hsame⟩ := X2.leave (v := some (.ref wOK)) (fun h => by rw [Bd.returns] at h; cases h)
    exact ⟨_, _, X2.areturnOut hx rfl Bd.returns rfl (hb hby own_rm1_d7) hr, hrun, hended, hP _ _ ⟨_, _, rfl, ⟨(congrArg (fun z => some (Value.ref z)) hv3), N0, e2⟩, ⟨_, rfl⟩, hW, hsame.mono (by decide) (by decide)⟩⟩
  · refine own_st (t' := s₁.setTop (mkF m 8 #[.val (.int p1)] [])) (fun _ k => XS.ifYes X0.here hx rfl (pc0 := 1) (pc' := 8) rfl (hb hby own_rm1_d1) rfl ((if0 _ _).trans (feq c1_1).2) (by decide) (by decide) k) ?_
    refine own_st (t' := s₁.setTop (mkF m 9 #[.val (.int p1)] [(.int p1)])) (fun _ k => XS.iloadN X0.here hx rfl (hb hby own_rm1_d8) rfl k) ?_
    refine own_st (t' := s₁.setTop (mkF m 10 #[.val (.int p1)] [(.int (1 : Int32)), (.int p1)])) (fun _ k => XS.iconst X0.here hx rfl (hb hby own_rm1_d9) k) ?_
    by_cases c10_4 : p1 = (1 : Int32)
    · refine own_st (t' := s₁.setTop (mkF m 13 #[.val (.int p1)] [])) (fun _ k => XS.icmpNo X0.here hx rfl (hb hby own_rm1_d10) rfl (teq c10_4).2 k) ?_
      obtain ⟨T5, X5, e5, st5⟩ := getS2 X0 hx hZ hown (host := "") (Or.inl (hw _ (List.mem_of_getElem? (i := 26) rfl))) Via.refl e0 S_NO_SUCH_ENTRY (g := (mkF m 13 #[.val (.int p1)] [])) rfl (hb hby own_rm1_d13)
      refine own_st (t' := T5.setTop (mkF m 16 #[.val (.int p1)] [(.ref wNO_SUCH_ENTRY)])) st5 ?_
      have hv6 : wNO_SUCH_ENTRY = w := by rw [hv, if_neg c1_1, if_pos c10_4]
      obtain ⟨fs, hr, hrun, hended, hW, hsame⟩ := X5.leave (v := some (.ref wNO_SUCH_ENTRY)) (fun h => by rw [Bd.returns] at h; cases h)
      exact ⟨_, _, X5.areturnOut hx rfl Bd.returns rfl (hb hby own_rm1_d16) hr, hrun, hended, hP _ _ ⟨_, _, rfl, ⟨(congrArg (fun z => some (Value.ref z)) hv6), N0, e5⟩, ⟨_, rfl⟩, hW, hsame.mono (by decide) (by decide)⟩⟩
    · refine own_st (t' := s₁.setTop (mkF m 17 #[.val (.int p1)] [])) (fun _ k => XS.icmpYes X0.here hx rfl (pc0 := 10) (pc' := 17) rfl (hb hby own_rm1_d10) rfl (feq c10_4).2 (by decide) (by decide) k) ?_
      refine own_st (t' := s₁.setTop (mkF m 18 #[.val (.int p1)] [(.int p1)])) (fun _ k => XS.iloadN X0.here hx rfl (hb hby own_rm1_d17) rfl k) ?_
      refine own_st (t' := s₁.setTop (mkF m 19 #[.val (.int p1)] [(.int (2 : Int32)), (.int p1)])) (fun _ k => XS.iconst X0.here hx rfl (hb hby own_rm1_d18) k) ?_
      by_cases c19_7 : p1 = (2 : Int32)
      · refine own_st (t' := s₁.setTop (mkF m 22 #[.val (.int p1)] [])) (fun _ k => XS.icmpNo X0.here hx rfl (hb hby own_rm1_d19) rfl (teq c19_7).2 k) ?_
        obtain ⟨T8, X8, e8, st8⟩ := getS2 X0 hx hZ hown (host := "") (Or.inl (hw _ (List.mem_of_getElem? (i := 25) rfl))) Via.refl e0 S_NO_SUCH_LEDGER (g := (mkF m 22 #[.val (.int p1)] [])) rfl (hb hby own_rm1_d22)
        refine own_st (t' := T8.setTop (mkF m 25 #[.val (.int p1)] [(.ref wNO_SUCH_LEDGER)])) st8 ?_
        have hv9 : wNO_SUCH_LEDGER = w := by rw [hv, if_neg c1_1, if_neg c10_4, if_pos c19_7]
        obtain ⟨fs, hr, hrun, hended, hW, hsame⟩ := X8.leave (v := some (.ref wNO_SUCH_LEDGER)) (fun h => by rw [Bd.returns] at h; cases h)
        exact ⟨_, _, X8.areturnOut hx rfl Bd.returns rfl (hb hby own_rm1_d25) hr, hrun, hended, hP _ _ ⟨_, _, rfl, ⟨(congrArg (fun z => some (Value.ref z)) hv9), N0, e8⟩, ⟨_, rfl⟩, hW, hsame.mono (by decide) (by decide)⟩⟩
      · refine own_st (t' := s₁.setTop (mkF m 26 #[.val (.int p1)] [])) (fun _ k => XS.icmpYes X0.here hx rfl (pc0 := 19) (pc' := 26) rfl (hb hby own_rm1_d19) rfl (feq c19_7).2 (by decide) (by decide) k) ?_
        refine own_st (t' := s₁.setTop (mkF m 27 #[.val (.int p1)] [(.int p1)])) (fun _ k => XS.iloadN X0.here hx rfl (hb hby own_rm1_d26) rfl k) ?_
        refine own_st (t' := s₁.setTop (mkF m 28 #[.val (.int p1)] [(.int (3 : Int32)), (.int p1)])) (fun _ k => XS.iconst X0.here hx rfl (hb hby own_rm1_d27) k) ?_
        by_cases c28_10 : p1 = (3 : Int32)
        · refine own_st (t' := s₁.setTop (mkF m 31 #[.val (.int p1)] [])) (fun _ k => XS.icmpNo X0.here hx rfl (hb hby own_rm1_d28) rfl (teq c28_10).2 k) ?_
          obtain ⟨T11, X11, e11, st11⟩ := getS2 X0 hx hZ hown (host := "") (Or.inl (hw _ (List.mem_of_getElem? (i := 17) rfl))) Via.refl e0 S_BAD_REQUEST (g := (mkF m 31 #[.val (.int p1)] [])) rfl (hb hby own_rm1_d31)
          refine own_st (t' := T11.setTop (mkF m 34 #[.val (.int p1)] [(.ref wBAD_REQUEST)])) st11 ?_
          have hv12 : wBAD_REQUEST = w := by rw [hv, if_neg c1_1, if_neg c10_4, if_neg c19_7, if_pos c28_10]
          obtain ⟨fs, hr, hrun, hended, hW, hsame⟩ := X11.leave (v := some (.ref wBAD_REQUEST)) (fun h => by rw [Bd.returns] at h; cases h)
          exact ⟨_, _, X11.areturnOut hx rfl Bd.returns rfl (hb hby own_rm1_d34) hr, hrun, hended, hP _ _ ⟨_, _, rfl, ⟨(congrArg (fun z => some (Value.ref z)) hv12), N0, e11⟩, ⟨_, rfl⟩, hW, hsame.mono (by decide) (by decide)⟩⟩
        · refine own_st (t' := s₁.setTop (mkF m 35 #[.val (.int p1)] [])) (fun _ k => XS.icmpYes X0.here hx rfl (pc0 := 28) (pc' := 35) rfl (hb hby own_rm1_d28) rfl (feq c28_10).2 (by decide) (by decide) k) ?_
          refine own_st (t' := s₁.setTop (mkF m 36 #[.val (.int p1)] [(.int p1)])) (fun _ k => XS.iloadN X0.here hx rfl (hb hby own_rm1_d35) rfl k) ?_
          refine own_st (t' := s₁.setTop (mkF m 37 #[.val (.int p1)] [(.int (4 : Int32)), (.int p1)])) (fun _ k => XS.iconst X0.here hx rfl (hb hby own_rm1_d36) k) ?_
          by_cases c37_13 : p1 = (4 : Int32)
          · refine own_st (t' := s₁.setTop (mkF m 40 #[.val (.int p1)] [])) (fun _ k => XS.icmpNo X0.here hx rfl (hb hby own_rm1_d37) rfl (teq c37_13).2 k) ?_
            obtain ⟨T14, X14, e14, st14⟩ := getS2 X0 hx hZ hown (host := "") (Or.inl (hw _ (List.mem_of_getElem? (i := 23) rfl))) Via.refl e0 S_ERROR (g := (mkF m 40 #[.val (.int p1)] [])) rfl (hb hby own_rm1_d40)
            refine own_st (t' := T14.setTop (mkF m 43 #[.val (.int p1)] [(.ref wERROR)])) st14 ?_
            have hv15 : wERROR = w := by rw [hv, if_neg c1_1, if_neg c10_4, if_neg c19_7, if_neg c28_10, if_pos c37_13]
            obtain ⟨fs, hr, hrun, hended, hW, hsame⟩ := X14.leave (v := some (.ref wERROR)) (fun h => by rw [Bd.returns] at h; cases h)
            exact ⟨_, _, X14.areturnOut hx rfl Bd.returns rfl (hb hby own_rm1_d43) hr, hrun, hended, hP _ _ ⟨_, _, rfl, ⟨(congrArg (fun z => some (Value.ref z)) hv15), N0, e14⟩, ⟨_, rfl⟩, hW, hsame.mono (by decide) (by decide)⟩⟩
          · refine own_st (t' := s₁.setTop (mkF m 44 #[.val (.int p1)] [])) (fun _ k => XS.icmpYes X0.here hx rfl (pc0 := 37) (pc' := 44) rfl (hb hby own_rm1_d37) rfl (feq c37_13).2 (by decide) (by decide) k) ?_
            refine own_st (t' := s₁.setTop (mkF m 45 #[.val (.int p1)] [(.int p1)])) (fun _ k => XS.iloadN X0.here hx rfl (hb hby own_rm1_d44) rfl k) ?_
            refine own_st (t' := s₁.setTop (mkF m 46 #[.val (.int p1)] [(.int (5 : Int32)), (.int p1)])) (fun _ k => XS.iconst X0.here hx rfl (hb hby own_rm1_d45) k) ?_
            by_cases c46_16 : p1 = (5 : Int32)
            · refine own_st (t' := s₁.setTop (mkF m 49 #[.val (.int p1)] [])) (fun _ k => XS.icmpNo X0.here hx rfl (hb hby own_rm1_d46) rfl (teq c46_16).2 k) ?_
              obtain ⟨T17, X17, e17, st17⟩ := getS2 X0 hx hZ hown (host := "") (Or.inl (hw _ (List.mem_of_getElem? (i := 19) rfl))) Via.refl e0 S_FENCED (g := (mkF m 49 #[.val (.int p1)] [])) rfl (hb hby own_rm1_d49)
              refine own_st (t' := T17.setTop (mkF m 52 #[.val (.int p1)] [(.ref wFENCED)])) st17 ?_
              have hv18 : wFENCED = w := by rw [hv, if_neg c1_1, if_neg c10_4, if_neg c19_7, if_neg c28_10, if_neg c37_13, if_pos c46_16]
              obtain ⟨fs, hr, hrun, hended, hW, hsame⟩ := X17.leave (v := some (.ref wFENCED)) (fun h => by rw [Bd.returns] at h; cases h)
              exact ⟨_, _, X17.areturnOut hx rfl Bd.returns rfl (hb hby own_rm1_d52) hr, hrun, hended, hP _ _ ⟨_, _, rfl, ⟨(congrArg (fun z => some (Value.ref z)) hv18), N0, e17⟩, ⟨_, rfl⟩, hW, hsame.mono (by decide) (by decide)⟩⟩
            · refine own_st (t' := s₁.setTop (mkF m 53 #[.val (.int p1)] [])) (fun _ k => XS.icmpYes X0.here hx rfl (pc0 := 46) (pc' := 53) rfl (hb hby own_rm1_d46) rfl (feq c46_16).2 (by decide) (by decide) k) ?_
              obtain ⟨T19, X19, e19, st19⟩ := getS2 X0 hx hZ hown (host := "") (Or.inl (hw _ (List.mem_of_getElem? (i := 21) rfl))) Via.refl e0 S_UNKNOWN (g := (mkF m 53 #[.val (.int p1)] [])) rfl (hb hby own_rm1_d53)
              refine own_st (t' := T19.setTop (mkF m 56 #[.val (.int p1)] [(.ref wUNKNOWN)])) st19 ?_
              have hv20 : wUNKNOWN = w := by rw [hv, if_neg c1_1, if_neg c10_4, if_neg c19_7, if_neg c28_10, if_neg c37_13, if_neg c46_16]
              obtain ⟨fs, hr, hrun, hended, hW, hsame⟩ := X19.leave (v := some (.ref wUNKNOWN)) (fun h => by rw [Bd.returns] at h; cases h)
              exact ⟨_, _, X19.areturnOut hx rfl Bd.returns rfl (hb hby own_rm1_d56) hr, hrun, hended, hP _ _ ⟨_, _, rfl, ⟨(congrArg (fun z => some (Value.ref z)) hv20), N0, e19⟩, ⟨_, rfl⟩, hW, hsame.mono (by decide) (by decide)⟩⟩

theorem own_rm2_d0 : decode prog_17_method_4_code 0 = .ok (.aload_n 0, 1) := by decide +kernel
theorem own_rm2_d1 : decode prog_17_method_4_code 1 = .ok (.getstatic 7, 3) := by decide +kernel
theorem own_rm2_d4 : decode prog_17_method_4_code 4 = .ok (.if_acmp .eq 10, 3) := by decide +kernel
theorem own_rm2_d7 : decode prog_17_method_4_code 7 = .ok (.aload_n 0, 1) := by decide +kernel
theorem own_rm2_d8 : decode prog_17_method_4_code 8 = .ok (.getstatic 10, 3) := by decide +kernel
theorem own_rm2_d11 : decode prog_17_method_4_code 11 = .ok (.if_acmp .ne 7, 3) := by decide +kernel
theorem own_rm2_d14 : decode prog_17_method_4_code 14 = .ok (.iconst 1, 1) := by decide +kernel
theorem own_rm2_d15 : decode prog_17_method_4_code 15 = .ok (.goto 4, 3) := by decide +kernel
theorem own_rm2_d18 : decode prog_17_method_4_code 18 = .ok (.iconst 0, 1) := by decide +kernel
theorem own_rm2_d19 : decode prog_17_method_4_code 19 = .ok (.ireturn, 1) := by decide +kernel
theorem own_rm2_pn : plainName "com/example/ledgerwarden/ledgerwarden/Protocol$Status" = true := by first | (simp [plainName, overriddenIn]; done) | decide +kernel
theorem own_rm2_ef (m : MethodId) (x0 : Addr) : entryFrame m #[(.ref x0)] 1 = mkF m 0 #[.val (.ref x0)] [] := by first | (simp [entryFrame, mkF, argsToLocals, Value.category]; done) | rfl
def own_rm2_Q (Z : State) (a1 : Addr) (wNO_SUCH_ENTRY : Addr) (wNO_SUCH_LEDGER : Addr) (w : Int32) (h0 : Heap) (n0 : Nat) (v : Option Value) (h : Heap) (L : List Loc) : Prop := v = some (.int (w)) ∧ Fr n0 L ∧ h = h0
set_option maxRecDepth 65536 in
set_option maxHeartbeats 40000000 in
theorem own_rm2 (l : Launch) (Z : State) (a0 : Array Value) (hw : ∀ d ∈ tables_1, d.before a0 Z = true) (ws : List Jvm.Cond) (a1 : Addr) (wNO_SUCH_ENTRY : Addr) (wNO_SUCH_LEDGER : Addr) (w : Int32) (h0 : Heap) (n0 : Nat) (Z0 : n0 ≤ h0.size) (S_NO_SUCH_ENTRY : Sta Z h0 "com/example/ledgerwarden/ledgerwarden/Protocol$Status" "NO_SUCH_ENTRY" "Lcom/example/ledgerwarden/ledgerwarden/Protocol$Status;" (.ref wNO_SUCH_ENTRY)) (S_NO_SUCH_LEDGER : Sta Z h0 "com/example/ledgerwarden/ledgerwarden/Protocol$Status" "NO_SUCH_LEDGER" "Lcom/example/ledgerwarden/ledgerwarden/Protocol$Status;" (.ref wNO_SUCH_LEDGER)) (hv : w = if a1 = wNO_SUCH_ENTRY then (1 : Int32) else if a1 = wNO_SUCH_LEDGER then (1 : Int32) else (0 : Int32)) :
    MetFree l (⟨"com/example/ledgerwarden/ledgerwarden/Protocol$Status", "saysAbsent", "()Z"⟩ : MethodName) (head1 (Jvm.Cond.code (⟨"com/example/ledgerwarden/ledgerwarden/Protocol$Status", "saysAbsent", "()Z"⟩ : MethodName) prog_17_method_4_code 1 (some .boolean) :: ws) ({ frames := 0, cells := 0, slots := 0, locals := 0 } : Room)) (fun a U => a = #[(.ref a1)] ∧ Z.Warmed39 U.vm ∧ U.heap = h0) (fun _ _ _ _ _ => True) (fun _ U o U' => ∃ v L, o = .returned v ∧ own_rm2_Q Z a1 wNO_SUCH_ENTRY wNO_SUCH_LEDGER w h0 n0 v U'.heap L ∧ FrameEnd U o U' L ({ frames := 0, cells := 0, slots := 0, locals := 0 } : Room).cells ({ frames := 0, cells := 0, slots := 0, locals := 0 } : Room).slots) := by
  refine MetFree.of_bodySF (plainFor_of_name own_rm2_pn) hisR ?_
  intro p e s m args below meth c s₁ Bd hml0 hPre hK
  obtain ⟨rfl, hZ, hh⟩ := hPre
  have hx := Bd.exec
  have hby := Bd.bytes
  have hml : c.maxLocals = 1 := hml0
  have hown : s.vm.findClass "com/example/ledgerwarden/ledgerwarden/Protocol$Status" = some m.cls := findClass_of_methodNamed Bd.named
  have hnm := (name_of_methodNamed Bd.named Bd.method).1
  have X0 : Stand p l e ({ frames := 0, cells := 0, slots := 0, locals := 0 } : Room) s m #[(.ref a1)] below meth c s₁ [] 0 0 := Stand.of_body Bd
  have e0 : s₁.heap = h0 := by rw [← hh, Bd.state]; rfl
  have N0 := Fr.nil n0
  refine own_body fun P hP => ?_
  refine own_st (t' := s₁.setTop (mkF m 0 #[.val (.ref a1)] [])) (fun _ k => castTop (own_rm2_ef m a1) k) ?_
  refine own_st (t' := s₁.setTop (mkF m 1 #[.val (.ref a1)] [(.ref a1)])) (fun _ k => XS.aloadN X0.here hx rfl (hb hby own_rm2_d0) rfl rfl k) ?_
  obtain ⟨T1, X1, e1, st1⟩ := getS2 X0 hx hZ hown (host := "") (Or.inl (hw _ (List.mem_of_getElem? (i := 13) rfl))) Via.refl e0 S_NO_SUCH_ENTRY (g := (mkF m 1 #[.val (.ref a1)] [(.ref a1)])) rfl (hb hby own_rm2_d1)
  refine own_st (t' := T1.setTop (mkF m 4 #[.val (.ref a1)] [(.ref wNO_SUCH_ENTRY), (.ref a1)])) st1 ?_
  by_cases c4_2 : a1 = wNO_SUCH_ENTRY
  · refine own_st (t' := T1.setTop (mkF m 14 #[.val (.ref a1)] [])) (fun _ k => Jvm.RoadKit.acmp (g := (mkF m 4 #[.val (.ref a1)] [(.ref wNO_SUCH_ENTRY), (.ref a1)])) X1 hx rfl rfl rfl (pc0 := 4) (pc' := 14) (same := true) rfl (hb hby own_rm2_d4) rfl (decide_eq_true (congrArg Value.ref c4_2)) (by decide) (by decide) k) ?_
    refine own_st (t' := T1.setTop (mkF m 15 #[.val (.ref a1)] [(.int (1 : Int32))])) (fun _ k => XS.iconst X1.here hx rfl (hb hby own_rm2_d14) k) ?_
    refine own_st (t' := T1.setTop (mkF m 19 #[.val (.ref a1)] [(.int (1 : Int32))])) (fun _ k => XS.goto X1.here hx rfl (pc0 := 15) (pc' := 19) rfl (hb hby own_rm2_d15) (by decide) (by decide) k) ?_
    have hv3 : (1 : Int32) = w := by rw [hv, if_pos c4_2]
    obtain ⟨fs, hr, hrun, hended, hW, hsame⟩ := X1.leave (v := some (.int (1 : Int32))) (fun h => by rw [Bd.returns] at h; cases h)
    exact ⟨_, _, retN X1 hx (t := .boolean) Bd.returns (by simp) (hb hby own_rm2_d19) hr, hrun, hended, hP _ _ ⟨_, _, rfl, ⟨(congrArg (fun z => some (Value.int z)) hv3), N0, e1⟩, ⟨_, rfl⟩, hW, hsame.mono (by decide) (by decide)⟩⟩
  · refine own_st (t' := T1.setTop (mkF m 7 #[.val (.ref a1)] [])) (fun _ k => Jvm.RoadKit.acmp (g := (mkF m 4 #[.val (.ref a1)] [(.ref wNO_SUCH_ENTRY), (.ref a1)])) X1 hx rfl rfl rfl (pc0 := 4) (pc' := 7) (same := false) rfl (hb hby own_rm2_d4) rfl (decide_eq_false fun q => c4_2 (Value.ref.inj q)) (by decide) (by decide) k) ?_
    refine own_st (t' := T1.setTop (mkF m 8 #[.val (.ref a1)] [(.ref a1)])) (fun _ k => XS.aloadN X1.here hx rfl (hb hby own_rm2_d7) rfl rfl k) ?_
    obtain ⟨T4, X4, e4, st4⟩ := getS2 X1 hx hZ hown (host := "") (Or.inl (hw _ (List.mem_of_getElem? (i := 15) rfl))) Via.refl e1 S_NO_SUCH_LEDGER (g := (mkF m 8 #[.val (.ref a1)] [(.ref a1)])) rfl (hb hby own_rm2_d8)
    refine own_st (t' := T4.setTop (mkF m 11 #[.val (.ref a1)] [(.ref wNO_SUCH_LEDGER), (.ref a1)])) st4 ?_
    by_cases c11_5 : a1 = wNO_SUCH_LEDGER
    · refine own_st (t' := T4.setTop (mkF m 14 #[.val (.ref a1)] [])) (fun _ k => Jvm.RoadKit.acmp (g := (mkF m 11 #[.val (.ref a1)] [(.ref wNO_SUCH_LEDGER), (.ref a1)])) X4 hx rfl rfl rfl (pc0 := 11) (pc' := 14) (same := true) rfl (hb hby own_rm2_d11) rfl (decide_eq_true (congrArg Value.ref c11_5)) (by decide) (by decide) k) ?_
      refine own_st (t' := T4.setTop (mkF m 15 #[.val (.ref a1)] [(.int (1 : Int32))])) (fun _ k => XS.iconst X4.here hx rfl (hb hby own_rm2_d14) k) ?_
      refine own_st (t' := T4.setTop (mkF m 19 #[.val (.ref a1)] [(.int (1 : Int32))])) (fun _ k => XS.goto X4.here hx rfl (pc0 := 15) (pc' := 19) rfl (hb hby own_rm2_d15) (by decide) (by decide) k) ?_
      have hv6 : (1 : Int32) = w := by rw [hv, if_neg c4_2, if_pos c11_5]
      obtain ⟨fs, hr, hrun, hended, hW, hsame⟩ := X4.leave (v := some (.int (1 : Int32))) (fun h => by rw [Bd.returns] at h; cases h)
      exact ⟨_, _, retN X4 hx (t := .boolean) Bd.returns (by simp) (hb hby own_rm2_d19) hr, hrun, hended, hP _ _ ⟨_, _, rfl, ⟨(congrArg (fun z => some (Value.int z)) hv6), N0, e4⟩, ⟨_, rfl⟩, hW, hsame.mono (by decide) (by decide)⟩⟩
    · refine own_st (t' := T4.setTop (mkF m 18 #[.val (.ref a1)] [])) (fun _ k => Jvm.RoadKit.acmp (g := (mkF m 11 #[.val (.ref a1)] [(.ref wNO_SUCH_LEDGER), (.ref a1)])) X4 hx rfl rfl rfl (pc0 := 11) (pc' := 18) (same := false) rfl (hb hby own_rm2_d11) rfl (decide_eq_false fun q => c11_5 (Value.ref.inj q)) (by decide) (by decide) k) ?_
      refine own_st (t' := T4.setTop (mkF m 19 #[.val (.ref a1)] [(.int (0 : Int32))])) (fun _ k => XS.iconst X4.here hx rfl (hb hby own_rm2_d18) k) ?_
      have hv7 : (0 : Int32) = w := by rw [hv, if_neg c4_2, if_neg c11_5]
      obtain ⟨fs, hr, hrun, hended, hW, hsame⟩ := X4.leave (v := some (.int (0 : Int32))) (fun h => by rw [Bd.returns] at h; cases h)
      exact ⟨_, _, retN X4 hx (t := .boolean) Bd.returns (by simp) (hb hby own_rm2_d19) hr, hrun, hended, hP _ _ ⟨_, _, rfl, ⟨(congrArg (fun z => some (Value.int z)) hv7), N0, e4⟩, ⟨_, rfl⟩, hW, hsame.mono (by decide) (by decide)⟩⟩

theorem own_rm0_pn : plainName "com/example/ledgerwarden/ledgerwarden/StatusSaysAbsentPinLaw" = true := by first | (simp [plainName, overriddenIn]; done) | decide +kernel
theorem own_rm0_pd0 : parseMethodDescriptor "(I)Lcom/example/ledgerwarden/ledgerwarden/Protocol$Status;" = some ⟨[.int], some (.object "com/example/ledgerwarden/ledgerwarden/Protocol$Status")⟩ := by decide +kernel
theorem own_rm0_pd1 : parseMethodDescriptor "()Z" = some ⟨[], some .boolean⟩ := by decide +kernel
theorem own_rm0_ef (m : MethodId) (x0 : Int32) : entryFrame m #[(.int x0)] maxLocals = mkF m 0 #[.val (.int x0), .unset, .unset, .unset] [] := by first | (simp [entryFrame, mkF, argsToLocals, Value.category, maxLocals]; done) | rfl
def own_rm0_Q (Z : State) (p1 : Int32) (wOK : Addr) (wNO_SUCH_ENTRY : Addr) (wNO_SUCH_LEDGER : Addr) (wBAD_REQUEST : Addr) (wERROR : Addr) (wFENCED : Addr) (wUNKNOWN : Addr) (h0 : Heap) (n0 : Nat) (v : Option Value) (h : Heap) (L : List Loc) : Prop := v = some (.int ((1 : Int32))) ∧ Fr n0 L
set_option maxRecDepth 65536 in
set_option maxHeartbeats 40000000 in
theorem own_rm0 (l : Launch) (Z : State) (a0 : Array Value) (hw : ∀ d ∈ tables_1, d.before a0 Z = true) (ws : List Jvm.Cond) (p1 : Int32) (wOK : Addr) (wNO_SUCH_ENTRY : Addr) (wNO_SUCH_LEDGER : Addr) (wBAD_REQUEST : Addr) (wERROR : Addr) (wFENCED : Addr) (wUNKNOWN : Addr) (h0 : Heap) (n0 : Nat) (Z0 : n0 ≤ h0.size) (S_OK : Sta Z h0 "com/example/ledgerwarden/ledgerwarden/Protocol$Status" "OK" "Lcom/example/ledgerwarden/ledgerwarden/Protocol$Status;" (.ref wOK)) (S_NO_SUCH_ENTRY : Sta Z h0 "com/example/ledgerwarden/ledgerwarden/Protocol$Status" "NO_SUCH_ENTRY" "Lcom/example/ledgerwarden/ledgerwarden/Protocol$Status;" (.ref wNO_SUCH_ENTRY)) (S_NO_SUCH_LEDGER : Sta Z h0 "com/example/ledgerwarden/ledgerwarden/Protocol$Status" "NO_SUCH_LEDGER" "Lcom/example/ledgerwarden/ledgerwarden/Protocol$Status;" (.ref wNO_SUCH_LEDGER)) (S_BAD_REQUEST : Sta Z h0 "com/example/ledgerwarden/ledgerwarden/Protocol$Status" "BAD_REQUEST" "Lcom/example/ledgerwarden/ledgerwarden/Protocol$Status;" (.ref wBAD_REQUEST)) (S_ERROR : Sta Z h0 "com/example/ledgerwarden/ledgerwarden/Protocol$Status" "ERROR" "Lcom/example/ledgerwarden/ledgerwarden/Protocol$Status;" (.ref wERROR)) (S_FENCED : Sta Z h0 "com/example/ledgerwarden/ledgerwarden/Protocol$Status" "FENCED" "Lcom/example/ledgerwarden/ledgerwarden/Protocol$Status;" (.ref wFENCED)) (S_UNKNOWN : Sta Z h0 "com/example/ledgerwarden/ledgerwarden/Protocol$Status" "UNKNOWN" "Lcom/example/ledgerwarden/ledgerwarden/Protocol$Status;" (.ref wUNKNOWN)) (E_OK : Exa Z h0 wOK "com/example/ledgerwarden/ledgerwarden/Protocol$Status") (E_NO_SUCH_ENTRY : Exa Z h0 wNO_SUCH_ENTRY "com/example/ledgerwarden/ledgerwarden/Protocol$Status") (E_NO_SUCH_LEDGER : Exa Z h0 wNO_SUCH_LEDGER "com/example/ledgerwarden/ledgerwarden/Protocol$Status") (E_BAD_REQUEST : Exa Z h0 wBAD_REQUEST "com/example/ledgerwarden/ledgerwarden/Protocol$Status") (E_ERROR : Exa Z h0 wERROR "com/example/ledgerwarden/ledgerwarden/Protocol$Status") (E_FENCED : Exa Z h0 wFENCED "com/example/ledgerwarden/ledgerwarden/Protocol$Status") (E_UNKNOWN : Exa Z h0 wUNKNOWN "com/example/ledgerwarden/ledgerwarden/Protocol$Status") (hne_0_1 : ¬ wOK = wNO_SUCH_ENTRY) (hne_0_2 : ¬ wOK = wNO_SUCH_LEDGER) (hne_2_1 : ¬ wNO_SUCH_LEDGER = wNO_SUCH_ENTRY) (hne_3_1 : ¬ wBAD_REQUEST = wNO_SUCH_ENTRY) (hne_3_2 : ¬ wBAD_REQUEST = wNO_SUCH_LEDGER) (hne_4_1 : ¬ wERROR = wNO_SUCH_ENTRY) (hne_4_2 : ¬ wERROR = wNO_SUCH_LEDGER) (hne_5_1 : ¬ wFENCED = wNO_SUCH_ENTRY) (hne_5_2 : ¬ wFENCED = wNO_SUCH_LEDGER) (hne_6_1 : ¬ wUNKNOWN = wNO_SUCH_ENTRY) (hne_6_2 : ¬ wUNKNOWN = wNO_SUCH_LEDGER) :
    MetFree l x (head1 (Jvm.Cond.code x code maxLocals ret :: ws) room_1) (fun a U => a = #[(.int p1)] ∧ Z.Warmed39 U.vm ∧ U.heap = h0) (fun _ _ _ _ _ => True) (fun _ U o U' => ∃ v L, o = .returned v ∧ own_rm0_Q Z p1 wOK wNO_SUCH_ENTRY wNO_SUCH_LEDGER wBAD_REQUEST wERROR wFENCED wUNKNOWN h0 n0 v U'.heap L ∧ FrameEnd U o U' L room_1.cells room_1.slots) := by
  refine MetFree.of_bodySF (plainFor_of_name own_rm0_pn) hisR ?_
  intro p e s m args below meth c s₁ Bd hml0 hPre hK
  obtain ⟨rfl, hZ, hh⟩ := hPre
  have hx := Bd.exec
  have hby := Bd.bytes
  have hml : c.maxLocals = 4 := hml0
  have hown : s.vm.findClass "com/example/ledgerwarden/ledgerwarden/StatusSaysAbsentPinLaw" = some m.cls := findClass_of_methodNamed Bd.named
  have hnm := (name_of_methodNamed Bd.named Bd.method).1
  have X0 : Stand p l e room_1 s m #[(.int p1)] below meth c s₁ [] 0 0 := Stand.of_body Bd
  have e0 : s₁.heap = h0 := by rw [← hh, Bd.state]; rfl
  have N0 := Fr.nil n0
  refine own_body fun P hP => ?_
  refine own_st (t' := s₁.setTop (mkF m 0 #[.val (.int p1), .unset, .unset, .unset] [])) (fun _ k => castTop (own_rm0_ef m p1) k) ?_
  refine own_st (t' := s₁.setTop (mkF m 1 #[.val (.int p1), .unset, .unset, .unset] [(.int p1)])) (fun _ k => XS.iloadN X0.here hx rfl (hb hby at_0) rfl k) ?_
  refine own_st (t' := s₁.setTop (mkF m 3 #[.val (.int p1), .unset, .unset, .unset] [(.int (2147483647 : Int32)), (.int p1)])) (fun _ k => X0.ldcInt hx hown (mvT hZ (hw _ (List.mem_of_getElem? (i := 0) rfl))) (g := (mkF m 1 #[.val (.int p1), .unset, .unset, .unset] [(.int p1)])) rfl (hb hby at_1) _ k) ?_
  refine own_st (t' := s₁.setTop (mkF m 4 #[.val (.int p1), .unset, .unset, .unset] [(.int (p1 &&& (2147483647 : Int32)))])) (fun _ k => XS.iand X0.here hx rfl (hb hby at_3) rfl k) ?_
  refine own_st (t' := s₁.setTop (mkF m 6 #[.val (.int p1), .unset, .unset, .unset] [(.int (7 : Int32)), (.int (p1 &&& (2147483647 : Int32)))])) (fun _ k => XS.bipush X0.here hx rfl (hb hby at_4) k) ?_
  refine own_st (t' := s₁.setTop (mkF m 7 #[.val (.int p1), .unset, .unset, .unset] [(.int ((p1 &&& (2147483647 : Int32)) % (7 : Int32)))])) (fun _ k => iremM (g := (mkF m 6 #[.val (.int p1), .unset, .unset, .unset] [(.int (7 : Int32)), (.int (p1 &&& (2147483647 : Int32)))])) X0 hx rfl (hb hby at_6) rfl (by decide) k) ?_
  refine own_st (t' := s₁.setTop (mkF m 8 #[.val (.int p1), .val (.int ((p1 &&& (2147483647 : Int32)) % (7 : Int32))), .unset, .unset] [])) (fun _ k => XS.istoreN X0.here hx rfl (hb hby at_7) rfl (l' := #[.val (.int p1), .val (.int ((p1 &&& (2147483647 : Int32)) % (7 : Int32))), .unset, .unset]) rfl k) ?_
  have hk := own_rem7 p1
  generalize ((p1 &&& (2147483647 : Int32)) % (7 : Int32)) = k at hk ⊢
  rcases hk with rfl | rfl | rfl | rfl | rfl | rfl | rfl
  · refine own_st (t' := s₁.setTop (mkF m 9 #[.val (.int p1), .val (.int (0 : Int32)), .unset, .unset] [(.int (0 : Int32))])) (fun _ k => XS.iloadN X0.here hx rfl (hb hby at_8) rfl k) ?_
    obtain ⟨_, _, ⟨T1, L1, k1, n1⟩, -, X1, ⟨Lc1, hQ1, l1, y1, z1⟩, st1⟩ := Jvm.LawKit.callS X0 hx (y := (⟨"com/example/ledgerwarden/ledgerwarden/StatusSaysAbsentPinLaw", "pick", "(I)Lcom/example/ledgerwarden/ledgerwarden/Protocol$Status;"⟩ : MethodName)) hown (mvT hZ (hw _ (List.mem_of_getElem? (i := 1) rfl))) (mvT hZ (hw _ (List.mem_of_getElem? (i := 2) rfl))) (mvT hZ (hw _ (List.mem_of_getElem? (i := 3) rfl))) (mvT hZ (hw _ (List.mem_of_getElem? (i := 4) rfl))) (by decide) (backOf (W := 0) (own_rm1 l Z a0 hw [] (0 : Int32) wOK wNO_SUCH_ENTRY wNO_SUCH_LEDGER wBAD_REQUEST wERROR wFENCED wUNKNOWN wOK h0 n0 Z0 S_OK S_NO_SUCH_ENTRY S_NO_SUCH_LEDGER S_BAD_REQUEST S_ERROR S_FENCED S_UNKNOWN (by simp)) hZ (hw _ (List.mem_of_getElem? (i := 4) rfl)) (hw _ (List.mem_of_getElem? (i := 3) rfl)) (by decide) (by decide)) (g := (mkF m 9 #[.val (.int p1), .val (.int (0 : Int32)), .unset, .unset] [(.int (0 : Int32))])) rfl (by rw [hml]; rfl) (argsL := [(.int (0 : Int32))]) (rest := []) (lenOf own_rm0_pd0 rfl) rfl (by show 2 * 0 + _ ≤ _; exact Nat.le_of_eq rfl) (hb hby at_9) (fun _ _ => ⟨rfl, e0, (by decide : 0 + 0 ≤ _), (by decide : 0 + 0 ≤ _)⟩)
    dsimp only [Pt.U, Pt.locs, Pt.cells, Pt.slots] at X1 l1 y1 z1 st1 hQ1
    subst l1 y1 z1
    obtain ⟨rfl, N1q, e1⟩ := hQ1
    have N1 := Fr.app N0 N1q
    refine own_st (t' := T1.setTop (mkF m 12 #[.val (.int p1), .val (.int (0 : Int32)), .unset, .unset] [(.ref wOK)])) st1 ?_
    refine own_st (t' := T1.setTop (mkF m 13 #[.val (.int p1), .val (.int (0 : Int32)), .val (.ref wOK), .unset] [])) (fun _ k => XS.astoreN X1.here hx rfl (hb hby at_12) rfl rfl (l' := #[.val (.int p1), .val (.int (0 : Int32)), .val (.ref wOK), .unset]) rfl k) ?_
    refine own_st (t' := T1.setTop (mkF m 14 #[.val (.int p1), .val (.int (0 : Int32)), .val (.ref wOK), .unset] [(.int (0 : Int32))])) (fun _ k => XS.iloadN X1.here hx rfl (hb hby at_13) rfl k) ?_
    refine own_st (t' := T1.setTop (mkF m 15 #[.val (.int p1), .val (.int (0 : Int32)), .val (.ref wOK), .unset] [(.int (1 : Int32)), (.int (0 : Int32))])) (fun _ k => XS.iconst X1.here hx rfl (hb hby at_14) k) ?_
    refine own_st (t' := T1.setTop (mkF m 18 #[.val (.int p1), .val (.int (0 : Int32)), .val (.ref wOK), .unset] [])) (fun _ k => XS.icmpNo X1.here hx rfl (hb hby at_15) rfl (feq (by decide : ¬ ((0 : Int32) = (1 : Int32)))).1 k) ?_
    refine own_st (t' := T1.setTop (mkF m 19 #[.val (.int p1), .val (.int (0 : Int32)), .val (.ref wOK), .unset] [(.int (0 : Int32))])) (fun _ k => XS.iloadN X1.here hx rfl (hb hby at_18) rfl k) ?_
    refine own_st (t' := T1.setTop (mkF m 20 #[.val (.int p1), .val (.int (0 : Int32)), .val (.ref wOK), .unset] [(.int (2 : Int32)), (.int (0 : Int32))])) (fun _ k => XS.iconst X1.here hx rfl (hb hby at_19) k) ?_
    refine own_st (t' := T1.setTop (mkF m 27 #[.val (.int p1), .val (.int (0 : Int32)), .val (.ref wOK), .unset] [])) (fun _ k => XS.icmpYes X1.here hx rfl (pc0 := 20) (pc' := 27) rfl (hb hby at_20) rfl (feq (by decide : ¬ ((0 : Int32) = (2 : Int32)))).2 (by decide) (by decide) k) ?_
    refine own_st (t' := T1.setTop (mkF m 28 #[.val (.int p1), .val (.int (0 : Int32)), .val (.ref wOK), .unset] [(.int (0 : Int32))])) (fun _ k => XS.iconst X1.here hx rfl (hb hby at_27) k) ?_
    refine own_st (t' := T1.setTop (mkF m 29 #[.val (.int p1), .val (.int (0 : Int32)), .val (.ref wOK), .val (.int (0 : Int32))] [])) (fun _ k => XS.istoreN X1.here hx rfl (hb hby at_28) rfl (l' := #[.val (.int p1), .val (.int (0 : Int32)), .val (.ref wOK), .val (.int (0 : Int32))]) rfl k) ?_
    refine own_st (t' := T1.setTop (mkF m 30 #[.val (.int p1), .val (.int (0 : Int32)), .val (.ref wOK), .val (.int (0 : Int32))] [(.ref wOK)])) (fun _ k => XS.aloadN X1.here hx rfl (hb hby at_29) rfl rfl k) ?_
    obtain ⟨cq2, kq2, q2a, q2b, q2c⟩ := isOf hZ e1 E_OK
    obtain ⟨_, _, ⟨T2, L2, k2, n2⟩, -, X2, ⟨Lc2, hQ2, l2, y2, z2⟩, st2⟩ := X1.virtualBack hx (y := (⟨"com/example/ledgerwarden/ledgerwarden/Protocol$Status", "saysAbsent", "()Z"⟩ : MethodName)) (z := (⟨"com/example/ledgerwarden/ledgerwarden/Protocol$Status", "saysAbsent", "()Z"⟩ : MethodName)) hown (mvT hZ (hw _ (List.mem_of_getElem? (i := 8) rfl))) (mvT hZ (hw _ (List.mem_of_getElem? (i := 9) rfl))) (notFace_of_selects (args := #[]) (mvT hZ (hw _ (List.mem_of_getElem? (i := 11) rfl)))) (mvT hZ (hw _ (List.mem_of_getElem? (i := 11) rfl))) (mvT hZ (hw _ (List.mem_of_getElem? (i := 10) rfl))) (by decide) (backOf (W := 0) (own_rm2 l Z a0 hw [] wOK wNO_SUCH_ENTRY wNO_SUCH_LEDGER (0 : Int32) h0 n0 Z0 S_NO_SUCH_ENTRY S_NO_SUCH_LEDGER (by rw [if_neg hne_0_1, if_neg hne_0_2])) hZ (hw _ (List.mem_of_getElem? (i := 12) rfl)) (hw _ (List.mem_of_getElem? (i := 6) rfl)) (by decide) (by decide)) q2a q2c (g := (mkF m 30 #[.val (.int p1), .val (.int (0 : Int32)), .val (.ref wOK), .val (.int (0 : Int32))] [(.ref wOK)])) rfl (by rw [hml]; rfl) (Steps.refl _) (argsL := []) (rest := []) (lenOf own_rm0_pd1 rfl) rfl (by show 2 * 0 + _ ≤ _; exact Nat.le_of_eq rfl) (hb hby at_30) (fun _ _ => ⟨rfl, e1, (by decide : 0 + 0 + 0 ≤ _), (by decide : 0 + 0 + 0 ≤ _)⟩)
    dsimp only [Pt.U, Pt.locs, Pt.cells, Pt.slots] at X2 l2 y2 z2 st2 hQ2
    subst l2 y2 z2
    obtain ⟨rfl, N2q, e2⟩ := hQ2
    have N2 := Fr.app N1 N2q
    refine own_tr (t' := T2.setTop (mkF m 33 #[.val (.int p1), .val (.int (0 : Int32)), .val (.ref wOK), .val (.int (0 : Int32))] [(.int (0 : Int32))])) st2 ?_
    refine own_st (t' := T2.setTop (mkF m 34 #[.val (.int p1), .val (.int (0 : Int32)), .val (.ref wOK), .val (.int (0 : Int32))] [(.int (0 : Int32)), (.int (0 : Int32))])) (fun _ k => XS.iloadN X2.here hx rfl (hb hby at_33) rfl k) ?_
    refine own_st (t' := T2.setTop (mkF m 37 #[.val (.int p1), .val (.int (0 : Int32)), .val (.ref wOK), .val (.int (0 : Int32))] [])) (fun _ k => XS.icmpNo X2.here hx rfl (hb hby at_34) rfl (teq (rfl : (0 : Int32) = (0 : Int32))).2 k) ?_
    refine own_st (t' := T2.setTop (mkF m 38 #[.val (.int p1), .val (.int (0 : Int32)), .val (.ref wOK), .val (.int (0 : Int32))] [(.int (1 : Int32))])) (fun _ k => XS.iconst X2.here hx rfl (hb hby at_37) k) ?_
    refine own_st (t' := T2.setTop (mkF m 42 #[.val (.int p1), .val (.int (0 : Int32)), .val (.ref wOK), .val (.int (0 : Int32))] [(.int (1 : Int32))])) (fun _ k => XS.goto X2.here hx rfl (pc0 := 38) (pc' := 42) rfl (hb hby at_38) (by decide) (by decide) k) ?_
    have hv3 : (1 : Int32) = (1 : Int32) := rfl
    obtain ⟨fs, hr, hrun, hended, hW, hsame⟩ := X2.leave (v := some (.int (1 : Int32))) (fun h => by rw [Bd.returns] at h; cases h)
    exact ⟨_, _, retN X2 hx (t := .boolean) Bd.returns (by simp) (hb hby at_42) hr, hrun, hended, hP _ _ ⟨_, _, rfl, ⟨(congrArg (fun z => some (Value.int z)) hv3), N2⟩, ⟨_, rfl⟩, hW, hsame.mono (by decide) (by decide)⟩⟩
  · refine own_st (t' := s₁.setTop (mkF m 9 #[.val (.int p1), .val (.int (1 : Int32)), .unset, .unset] [(.int (1 : Int32))])) (fun _ k => XS.iloadN X0.here hx rfl (hb hby at_8) rfl k) ?_
    obtain ⟨_, _, ⟨T4, L4, k4, n4⟩, -, X4, ⟨Lc4, hQ4, l4, y4, z4⟩, st4⟩ := Jvm.LawKit.callS X0 hx (y := (⟨"com/example/ledgerwarden/ledgerwarden/StatusSaysAbsentPinLaw", "pick", "(I)Lcom/example/ledgerwarden/ledgerwarden/Protocol$Status;"⟩ : MethodName)) hown (mvT hZ (hw _ (List.mem_of_getElem? (i := 1) rfl))) (mvT hZ (hw _ (List.mem_of_getElem? (i := 2) rfl))) (mvT hZ (hw _ (List.mem_of_getElem? (i := 3) rfl))) (mvT hZ (hw _ (List.mem_of_getElem? (i := 4) rfl))) (by decide) (backOf (W := 0) (own_rm1 l Z a0 hw [] (1 : Int32) wOK wNO_SUCH_ENTRY wNO_SUCH_LEDGER wBAD_REQUEST wERROR wFENCED wUNKNOWN wNO_SUCH_ENTRY h0 n0 Z0 S_OK S_NO_SUCH_ENTRY S_NO_SUCH_LEDGER S_BAD_REQUEST S_ERROR S_FENCED S_UNKNOWN (by simp)) hZ (hw _ (List.mem_of_getElem? (i := 4) rfl)) (hw _ (List.mem_of_getElem? (i := 3) rfl)) (by decide) (by decide)) (g := (mkF m 9 #[.val (.int p1), .val (.int (1 : Int32)), .unset, .unset] [(.int (1 : Int32))])) rfl (by rw [hml]; rfl) (argsL := [(.int (1 : Int32))]) (rest := []) (lenOf own_rm0_pd0 rfl) rfl (by show 2 * 0 + _ ≤ _; exact Nat.le_of_eq rfl) (hb hby at_9) (fun _ _ => ⟨rfl, e0, (by decide : 0 + 0 ≤ _), (by decide : 0 + 0 ≤ _)⟩)
    dsimp only [Pt.U, Pt.locs, Pt.cells, Pt.slots] at X4 l4 y4 z4 st4 hQ4
    subst l4 y4 z4
    obtain ⟨rfl, N4q, e4⟩ := hQ4
    have N4 := Fr.app N0 N4q
    refine own_st (t' := T4.setTop (mkF m 12 #[.val (.int p1), .val (.int (1 : Int32)), .unset, .unset] [(.ref wNO_SUCH_ENTRY)])) st4 ?_
    refine own_st (t' := T4.setTop (mkF m 13 #[.val (.int p1), .val (.int (1 : Int32)), .val (.ref wNO_SUCH_ENTRY), .unset] [])) (fun _ k => XS.astoreN X4.here hx rfl (hb hby at_12) rfl rfl (l' := #[.val (.int p1), .val (.int (1 : Int32)), .val (.ref wNO_SUCH_ENTRY), .unset]) rfl k) ?_
    refine own_st (t' := T4.setTop (mkF m 14 #[.val (.int p1), .val (.int (1 : Int32)), .val (.ref wNO_SUCH_ENTRY), .unset] [(.int (1 : Int32))])) (fun _ k => XS.iloadN X4.here hx rfl (hb hby at_13) rfl k) ?_
    refine own_st (t' := T4.setTop (mkF m 15 #[.val (.int p1), .val (.int (1 : Int32)), .val (.ref wNO_SUCH_ENTRY), .unset] [(.int (1 : Int32)), (.int (1 : Int32))])) (fun _ k => XS.iconst X4.here hx rfl (hb hby at_14) k) ?_
    refine own_st (t' := T4.setTop (mkF m 23 #[.val (.int p1), .val (.int (1 : Int32)), .val (.ref wNO_SUCH_ENTRY), .unset] [])) (fun _ k => XS.icmpYes X4.here hx rfl (pc0 := 15) (pc' := 23) rfl (hb hby at_15) rfl (teq (rfl : (1 : Int32) = (1 : Int32))).1 (by decide) (by decide) k) ?_
    refine own_st (t' := T4.setTop (mkF m 24 #[.val (.int p1), .val (.int (1 : Int32)), .val (.ref wNO_SUCH_ENTRY), .unset] [(.int (1 : Int32))])) (fun _ k => XS.iconst X4.here hx rfl (hb hby at_23) k) ?_
    refine own_st (t' := T4.setTop (mkF m 28 #[.val (.int p1), .val (.int (1 : Int32)), .val (.ref wNO_SUCH_ENTRY), .unset] [(.int (1 : Int32))])) (fun _ k => XS.goto X4.here hx rfl (pc0 := 24) (pc' := 28) rfl (hb hby at_24) (by decide) (by decide) k) ?_
    refine own_st (t' := T4.setTop (mkF m 29 #[.val (.int p1), .val (.int (1 : Int32)), .val (.ref wNO_SUCH_ENTRY), .val (.int (1 : Int32))] [])) (fun _ k => XS.istoreN X4.here hx rfl (hb hby at_28) rfl (l' := #[.val (.int p1), .val (.int (1 : Int32)), .val (.ref wNO_SUCH_ENTRY), .val (.int (1 : Int32))]) rfl k) ?_
    refine own_st (t' := T4.setTop (mkF m 30 #[.val (.int p1), .val (.int (1 : Int32)), .val (.ref wNO_SUCH_ENTRY), .val (.int (1 : Int32))] [(.ref wNO_SUCH_ENTRY)])) (fun _ k => XS.aloadN X4.here hx rfl (hb hby at_29) rfl rfl k) ?_
    obtain ⟨cq5, kq5, q5a, q5b, q5c⟩ := isOf hZ e4 E_NO_SUCH_ENTRY
    obtain ⟨_, _, ⟨T5, L5, k5, n5⟩, -, X5, ⟨Lc5, hQ5, l5, y5, z5⟩, st5⟩ := X4.virtualBack hx (y := (⟨"com/example/ledgerwarden/ledgerwarden/Protocol$Status", "saysAbsent", "()Z"⟩ : MethodName)) (z := (⟨"com/example/ledgerwarden/ledgerwarden/Protocol$Status", "saysAbsent", "()Z"⟩ : MethodName)) hown (mvT hZ (hw _ (List.mem_of_getElem? (i := 8) rfl))) (mvT hZ (hw _ (List.mem_of_getElem? (i := 9) rfl))) (notFace_of_selects (args := #[]) (mvT hZ (hw _ (List.mem_of_getElem? (i := 11) rfl)))) (mvT hZ (hw _ (List.mem_of_getElem? (i := 11) rfl))) (mvT hZ (hw _ (List.mem_of_getElem? (i := 10) rfl))) (by decide) (backOf (W := 0) (own_rm2 l Z a0 hw [] wNO_SUCH_ENTRY wNO_SUCH_ENTRY wNO_SUCH_LEDGER (1 : Int32) h0 n0 Z0 S_NO_SUCH_ENTRY S_NO_SUCH_LEDGER ((if_pos rfl).symm)) hZ (hw _ (List.mem_of_getElem? (i := 12) rfl)) (hw _ (List.mem_of_getElem? (i := 6) rfl)) (by decide) (by decide)) q5a q5c (g := (mkF m 30 #[.val (.int p1), .val (.int (1 : Int32)), .val (.ref wNO_SUCH_ENTRY), .val (.int (1 : Int32))] [(.ref wNO_SUCH_ENTRY)])) rfl (by rw [hml]; rfl) (Steps.refl _) (argsL := []) (rest := []) (lenOf own_rm0_pd1 rfl) rfl (by show 2 * 0 + _ ≤ _; exact Nat.le_of_eq rfl) (hb hby at_30) (fun _ _ => ⟨rfl, e4, (by decide : 0 + 0 + 0 ≤ _), (by decide : 0 + 0 + 0 ≤ _)⟩)
    dsimp only [Pt.U, Pt.locs, Pt.cells, Pt.slots] at X5 l5 y5 z5 st5 hQ5
    subst l5 y5 z5
    obtain ⟨rfl, N5q, e5⟩ := hQ5
    have N5 := Fr.app N4 N5q
    refine own_tr (t' := T5.setTop (mkF m 33 #[.val (.int p1), .val (.int (1 : Int32)), .val (.ref wNO_SUCH_ENTRY), .val (.int (1 : Int32))] [(.int (1 : Int32))])) st5 ?_
    refine own_st (t' := T5.setTop (mkF m 34 #[.val (.int p1), .val (.int (1 : Int32)), .val (.ref wNO_SUCH_ENTRY), .val (.int (1 : Int32))] [(.int (1 : Int32)), (.int (1 : Int32))])) (fun _ k => XS.iloadN X5.here hx rfl (hb hby at_33) rfl k) ?_
    refine own_st (t' := T5.setTop (mkF m 37 #[.val (.int p1), .val (.int (1 : Int32)), .val (.ref wNO_SUCH_ENTRY), .val (.int (1 : Int32))] [])) (fun _ k => XS.icmpNo X5.here hx rfl (hb hby at_34) rfl (teq (rfl : (1 : Int32) = (1 : Int32))).2 k) ?_
    refine own_st (t' := T5.setTop (mkF m 38 #[.val (.int p1), .val (.int (1 : Int32)), .val (.ref wNO_SUCH_ENTRY), .val (.int (1 : Int32))] [(.int (1 : Int32))])) (fun _ k => XS.iconst X5.here hx rfl (hb hby at_37) k) ?_
    refine own_st (t' := T5.setTop (mkF m 42 #[.val (.int p1), .val (.int (1 : Int32)), .val (.ref wNO_SUCH_ENTRY), .val (.int (1 : Int32))] [(.int (1 : Int32))])) (fun _ k => XS.goto X5.here hx rfl (pc0 := 38) (pc' := 42) rfl (hb hby at_38) (by decide) (by decide) k) ?_
    have hv6 : (1 : Int32) = (1 : Int32) := rfl
    obtain ⟨fs, hr, hrun, hended, hW, hsame⟩ := X5.leave (v := some (.int (1 : Int32))) (fun h => by rw [Bd.returns] at h; cases h)
    exact ⟨_, _, retN X5 hx (t := .boolean) Bd.returns (by simp) (hb hby at_42) hr, hrun, hended, hP _ _ ⟨_, _, rfl, ⟨(congrArg (fun z => some (Value.int z)) hv6), N5⟩, ⟨_, rfl⟩, hW, hsame.mono (by decide) (by decide)⟩⟩
  · refine own_st (t' := s₁.setTop (mkF m 9 #[.val (.int p1), .val (.int (2 : Int32)), .unset, .unset] [(.int (2 : Int32))])) (fun _ k => XS.iloadN X0.here hx rfl (hb hby at_8) rfl k) ?_
    obtain ⟨_, _, ⟨T7, L7, k7, n7⟩, -, X7, ⟨Lc7, hQ7, l7, y7, z7⟩, st7⟩ := Jvm.LawKit.callS X0 hx (y := (⟨"com/example/ledgerwarden/ledgerwarden/StatusSaysAbsentPinLaw", "pick", "(I)Lcom/example/ledgerwarden/ledgerwarden/Protocol$Status;"⟩ : MethodName)) hown (mvT hZ (hw _ (List.mem_of_getElem? (i := 1) rfl))) (mvT hZ (hw _ (List.mem_of_getElem? (i := 2) rfl))) (mvT hZ (hw _ (List.mem_of_getElem? (i := 3) rfl))) (mvT hZ (hw _ (List.mem_of_getElem? (i := 4) rfl))) (by decide) (backOf (W := 0) (own_rm1 l Z a0 hw [] (2 : Int32) wOK wNO_SUCH_ENTRY wNO_SUCH_LEDGER wBAD_REQUEST wERROR wFENCED wUNKNOWN wNO_SUCH_LEDGER h0 n0 Z0 S_OK S_NO_SUCH_ENTRY S_NO_SUCH_LEDGER S_BAD_REQUEST S_ERROR S_FENCED S_UNKNOWN (by simp)) hZ (hw _ (List.mem_of_getElem? (i := 4) rfl)) (hw _ (List.mem_of_getElem? (i := 3) rfl)) (by decide) (by decide)) (g := (mkF m 9 #[.val (.int p1), .val (.int (2 : Int32)), .unset, .unset] [(.int (2 : Int32))])) rfl (by rw [hml]; rfl) (argsL := [(.int (2 : Int32))]) (rest := []) (lenOf own_rm0_pd0 rfl) rfl (by show 2 * 0 + _ ≤ _; exact Nat.le_of_eq rfl) (hb hby at_9) (fun _ _ => ⟨rfl, e0, (by decide : 0 + 0 ≤ _), (by decide : 0 + 0 ≤ _)⟩)
    dsimp only [Pt.U, Pt.locs, Pt.cells, Pt.slots] at X7 l7 y7 z7 st7 hQ7
    subst l7 y7 z7
    obtain ⟨rfl, N7q, e7⟩ := hQ7
    have N7 := Fr.app N0 N7q
    refine own_st (t' := T7.setTop (mkF m 12 #[.val (.int p1), .val (.int (2 : Int32)), .unset, .unset] [(.ref wNO_SUCH_LEDGER)])) st7 ?_
    refine own_st (t' := T7.setTop (mkF m 13 #[.val (.int p1), .val (.int (2 : Int32)), .val (.ref wNO_SUCH_LEDGER), .unset] [])) (fun _ k => XS.astoreN X7.here hx rfl (hb hby at_12) rfl rfl (l' := #[.val (.int p1), .val (.int (2 : Int32)), .val (.ref wNO_SUCH_LEDGER), .unset]) rfl k) ?_
    refine own_st (t' := T7.setTop (mkF m 14 #[.val (.int p1), .val (.int (2 : Int32)), .val (.ref wNO_SUCH_LEDGER), .unset] [(.int (2 : Int32))])) (fun _ k => XS.iloadN X7.here hx rfl (hb hby at_13) rfl k) ?_
    refine own_st (t' := T7.setTop (mkF m 15 #[.val (.int p1), .val (.int (2 : Int32)), .val (.ref wNO_SUCH_LEDGER), .unset] [(.int (1 : Int32)), (.int (2 : Int32))])) (fun _ k => XS.iconst X7.here hx rfl (hb hby at_14) k) ?_
    refine own_st (t' := T7.setTop (mkF m 18 #[.val (.int p1), .val (.int (2 : Int32)), .val (.ref wNO_SUCH_LEDGER), .unset] [])) (fun _ k => XS.icmpNo X7.here hx rfl (hb hby at_15) rfl (feq (by decide : ¬ ((2 : Int32) = (1 : Int32)))).1 k) ?_
    refine own_st (t' := T7.setTop (mkF m 19 #[.val (.int p1), .val (.int (2 : Int32)), .val (.ref wNO_SUCH_LEDGER), .unset] [(.int (2 : Int32))])) (fun _ k => XS.iloadN X7.here hx rfl (hb hby at_18) rfl k) ?_
    refine own_st (t' := T7.setTop (mkF m 20 #[.val (.int p1), .val (.int (2 : Int32)), .val (.ref wNO_SUCH_LEDGER), .unset] [(.int (2 : Int32)), (.int (2 : Int32))])) (fun _ k => XS.iconst X7.here hx rfl (hb hby at_19) k) ?_
    refine own_st (t' := T7.setTop (mkF m 23 #[.val (.int p1), .val (.int (2 : Int32)), .val (.ref wNO_SUCH_LEDGER), .unset] [])) (fun _ k => XS.icmpNo X7.here hx rfl (hb hby at_20) rfl (teq (rfl : (2 : Int32) = (2 : Int32))).2 k) ?_
    refine own_st (t' := T7.setTop (mkF m 24 #[.val (.int p1), .val (.int (2 : Int32)), .val (.ref wNO_SUCH_LEDGER), .unset] [(.int (1 : Int32))])) (fun _ k => XS.iconst X7.here hx rfl (hb hby at_23) k) ?_
    refine own_st (t' := T7.setTop (mkF m 28 #[.val (.int p1), .val (.int (2 : Int32)), .val (.ref wNO_SUCH_LEDGER), .unset] [(.int (1 : Int32))])) (fun _ k => XS.goto X7.here hx rfl (pc0 := 24) (pc' := 28) rfl (hb hby at_24) (by decide) (by decide) k) ?_
    refine own_st (t' := T7.setTop (mkF m 29 #[.val (.int p1), .val (.int (2 : Int32)), .val (.ref wNO_SUCH_LEDGER), .val (.int (1 : Int32))] [])) (fun _ k => XS.istoreN X7.here hx rfl (hb hby at_28) rfl (l' := #[.val (.int p1), .val (.int (2 : Int32)), .val (.ref wNO_SUCH_LEDGER), .val (.int (1 : Int32))]) rfl k) ?_
    refine own_st (t' := T7.setTop (mkF m 30 #[.val (.int p1), .val (.int (2 : Int32)), .val (.ref wNO_SUCH_LEDGER), .val (.int (1 : Int32))] [(.ref wNO_SUCH_LEDGER)])) (fun _ k => XS.aloadN X7.here hx rfl (hb hby at_29) rfl rfl k) ?_
    obtain ⟨cq8, kq8, q8a, q8b, q8c⟩ := isOf hZ e7 E_NO_SUCH_LEDGER
    obtain ⟨_, _, ⟨T8, L8, k8, n8⟩, -, X8, ⟨Lc8, hQ8, l8, y8, z8⟩, st8⟩ := X7.virtualBack hx (y := (⟨"com/example/ledgerwarden/ledgerwarden/Protocol$Status", "saysAbsent", "()Z"⟩ : MethodName)) (z := (⟨"com/example/ledgerwarden/ledgerwarden/Protocol$Status", "saysAbsent", "()Z"⟩ : MethodName)) hown (mvT hZ (hw _ (List.mem_of_getElem? (i := 8) rfl))) (mvT hZ (hw _ (List.mem_of_getElem? (i := 9) rfl))) (notFace_of_selects (args := #[]) (mvT hZ (hw _ (List.mem_of_getElem? (i := 11) rfl)))) (mvT hZ (hw _ (List.mem_of_getElem? (i := 11) rfl))) (mvT hZ (hw _ (List.mem_of_getElem? (i := 10) rfl))) (by decide) (backOf (W := 0) (own_rm2 l Z a0 hw [] wNO_SUCH_LEDGER wNO_SUCH_ENTRY wNO_SUCH_LEDGER (1 : Int32) h0 n0 Z0 S_NO_SUCH_ENTRY S_NO_SUCH_LEDGER (by rw [if_neg hne_2_1, if_pos rfl])) hZ (hw _ (List.mem_of_getElem? (i := 12) rfl)) (hw _ (List.mem_of_getElem? (i := 6) rfl)) (by decide) (by decide)) q8a q8c (g := (mkF m 30 #[.val (.int p1), .val (.int (2 : Int32)), .val (.ref wNO_SUCH_LEDGER), .val (.int (1 : Int32))] [(.ref wNO_SUCH_LEDGER)])) rfl (by rw [hml]; rfl) (Steps.refl _) (argsL := []) (rest := []) (lenOf own_rm0_pd1 rfl) rfl (by show 2 * 0 + _ ≤ _; exact Nat.le_of_eq rfl) (hb hby at_30) (fun _ _ => ⟨rfl, e7, (by decide : 0 + 0 + 0 ≤ _), (by decide : 0 + 0 + 0 ≤ _)⟩)
    dsimp only [Pt.U, Pt.locs, Pt.cells, Pt.slots] at X8 l8 y8 z8 st8 hQ8
    subst l8 y8 z8
    obtain ⟨rfl, N8q, e8⟩ := hQ8
    have N8 := Fr.app N7 N8q
    refine own_tr (t' := T8.setTop (mkF m 33 #[.val (.int p1), .val (.int (2 : Int32)), .val (.ref wNO_SUCH_LEDGER), .val (.int (1 : Int32))] [(.int (1 : Int32))])) st8 ?_
    refine own_st (t' := T8.setTop (mkF m 34 #[.val (.int p1), .val (.int (2 : Int32)), .val (.ref wNO_SUCH_LEDGER), .val (.int (1 : Int32))] [(.int (1 : Int32)), (.int (1 : Int32))])) (fun _ k => XS.iloadN X8.here hx rfl (hb hby at_33) rfl k) ?_
    refine own_st (t' := T8.setTop (mkF m 37 #[.val (.int p1), .val (.int (2 : Int32)), .val (.ref wNO_SUCH_LEDGER), .val (.int (1 : Int32))] [])) (fun _ k => XS.icmpNo X8.here hx rfl (hb hby at_34) rfl (teq (rfl : (1 : Int32) = (1 : Int32))).2 k) ?_
    refine own_st (t' := T8.setTop (mkF m 38 #[.val (.int p1), .val (.int (2 : Int32)), .val (.ref wNO_SUCH_LEDGER), .val (.int (1 : Int32))] [(.int (1 : Int32))])) (fun _ k => XS.iconst X8.here hx rfl (hb hby at_37) k) ?_
    refine own_st (t' := T8.setTop (mkF m 42 #[.val (.int p1), .val (.int (2 : Int32)), .val (.ref wNO_SUCH_LEDGER), .val (.int (1 : Int32))] [(.int (1 : Int32))])) (fun _ k => XS.goto X8.here hx rfl (pc0 := 38) (pc' := 42) rfl (hb hby at_38) (by decide) (by decide) k) ?_
    have hv9 : (1 : Int32) = (1 : Int32) := rfl
    obtain ⟨fs, hr, hrun, hended, hW, hsame⟩ := X8.leave (v := some (.int (1 : Int32))) (fun h => by rw [Bd.returns] at h; cases h)
    exact ⟨_, _, retN X8 hx (t := .boolean) Bd.returns (by simp) (hb hby at_42) hr, hrun, hended, hP _ _ ⟨_, _, rfl, ⟨(congrArg (fun z => some (Value.int z)) hv9), N8⟩, ⟨_, rfl⟩, hW, hsame.mono (by decide) (by decide)⟩⟩
  · refine own_st (t' := s₁.setTop (mkF m 9 #[.val (.int p1), .val (.int (3 : Int32)), .unset, .unset] [(.int (3 : Int32))])) (fun _ k => XS.iloadN X0.here hx rfl (hb hby at_8) rfl k) ?_
    obtain ⟨_, _, ⟨T10, L10, k10, n10⟩, -, X10, ⟨Lc10, hQ10, l10, y10, z10⟩, st10⟩ := Jvm.LawKit.callS X0 hx (y := (⟨"com/example/ledgerwarden/ledgerwarden/StatusSaysAbsentPinLaw", "pick", "(I)Lcom/example/ledgerwarden/ledgerwarden/Protocol$Status;"⟩ : MethodName)) hown (mvT hZ (hw _ (List.mem_of_getElem? (i := 1) rfl))) (mvT hZ (hw _ (List.mem_of_getElem? (i := 2) rfl))) (mvT hZ (hw _ (List.mem_of_getElem? (i := 3) rfl))) (mvT hZ (hw _ (List.mem_of_getElem? (i := 4) rfl))) (by decide) (backOf (W := 0) (own_rm1 l Z a0 hw [] (3 : Int32) wOK wNO_SUCH_ENTRY wNO_SUCH_LEDGER wBAD_REQUEST wERROR wFENCED wUNKNOWN wBAD_REQUEST h0 n0 Z0 S_OK S_NO_SUCH_ENTRY S_NO_SUCH_LEDGER S_BAD_REQUEST S_ERROR S_FENCED S_UNKNOWN (by simp)) hZ (hw _ (List.mem_of_getElem? (i := 4) rfl)) (hw _ (List.mem_of_getElem? (i := 3) rfl)) (by decide) (by decide)) (g := (mkF m 9 #[.val (.int p1), .val (.int (3 : Int32)), .unset, .unset] [(.int (3 : Int32))])) rfl (by rw [hml]; rfl) (argsL := [(.int (3 : Int32))]) (rest := []) (lenOf own_rm0_pd0 rfl) rfl (by show 2 * 0 + _ ≤ _; exact Nat.le_of_eq rfl) (hb hby at_9) (fun _ _ => ⟨rfl, e0, (by decide : 0 + 0 ≤ _), (by decide : 0 + 0 ≤ _)⟩)
    dsimp only [Pt.U, Pt.locs, Pt.cells, Pt.slots] at X10 l10 y10 z10 st10 hQ10
    subst l10 y10 z10
    obtain ⟨rfl, N10q, e10⟩ := hQ10
    have N10 := Fr.app N0 N10q
    refine own_st (t' := T10.setTop (mkF m 12 #[.val (.int p1), .val (.int (3 : Int32)), .unset, .unset] [(.ref wBAD_REQUEST)])) st10 ?_
    refine own_st (t' := T10.setTop (mkF m 13 #[.val (.int p1), .val (.int (3 : Int32)), .val (.ref wBAD_REQUEST), .unset] [])) (fun _ k => XS.astoreN X10.here hx rfl (hb hby at_12) rfl rfl (l' := #[.val (.int p1), .val (.int (3 : Int32)), .val (.ref wBAD_REQUEST), .unset]) rfl k) ?_
    refine own_st (t' := T10.setTop (mkF m 14 #[.val (.int p1), .val (.int (3 : Int32)), .val (.ref wBAD_REQUEST), .unset] [(.int (3 : Int32))])) (fun _ k => XS.iloadN X10.here hx rfl (hb hby at_13) rfl k) ?_
    refine own_st (t' := T10.setTop (mkF m 15 #[.val (.int p1), .val (.int (3 : Int32)), .val (.ref wBAD_REQUEST), .unset] [(.int (1 : Int32)), (.int (3 : Int32))])) (fun _ k => XS.iconst X10.here hx rfl (hb hby at_14) k) ?_
    refine own_st (t' := T10.setTop (mkF m 18 #[.val (.int p1), .val (.int (3 : Int32)), .val (.ref wBAD_REQUEST), .unset] [])) (fun _ k => XS.icmpNo X10.here hx rfl (hb hby at_15) rfl (feq (by decide : ¬ ((3 : Int32) = (1 : Int32)))).1 k) ?_
    refine own_st (t' := T10.setTop (mkF m 19 #[.val (.int p1), .val (.int (3 : Int32)), .val (.ref wBAD_REQUEST), .unset] [(.int (3 : Int32))])) (fun _ k => XS.iloadN X10.here hx rfl (hb hby at_18) rfl k) ?_
    refine own_st (t' := T10.setTop (mkF m 20 #[.val (.int p1), .val (.int (3 : Int32)), .val (.ref wBAD_REQUEST), .unset] [(.int (2 : Int32)), (.int (3 : Int32))])) (fun _ k => XS.iconst X10.here hx rfl (hb hby at_19) k) ?_
    refine own_st (t' := T10.setTop (mkF m 27 #[.val (.int p1), .val (.int (3 : Int32)), .val (.ref wBAD_REQUEST), .unset] [])) (fun _ k => XS.icmpYes X10.here hx rfl (pc0 := 20) (pc' := 27) rfl (hb hby at_20) rfl (feq (by decide : ¬ ((3 : Int32) = (2 : Int32)))).2 (by decide) (by decide) k) ?_
    refine own_st (t' := T10.setTop (mkF m 28 #[.val (.int p1), .val (.int (3 : Int32)), .val (.ref wBAD_REQUEST), .unset] [(.int (0 : Int32))])) (fun _ k => XS.iconst X10.here hx rfl (hb hby at_27) k) ?_
    refine own_st (t' := T10.setTop (mkF m 29 #[.val (.int p1), .val (.int (3 : Int32)), .val (.ref wBAD_REQUEST), .val (.int (0 : Int32))] [])) (fun _ k => XS.istoreN X10.here hx rfl (hb hby at_28) rfl (l' := #[.val (.int p1), .val (.int (3 : Int32)), .val (.ref wBAD_REQUEST), .val (.int (0 : Int32))]) rfl k) ?_
    refine own_st (t' := T10.setTop (mkF m 30 #[.val (.int p1), .val (.int (3 : Int32)), .val (.ref wBAD_REQUEST), .val (.int (0 : Int32))] [(.ref wBAD_REQUEST)])) (fun _ k => XS.aloadN X10.here hx rfl (hb hby at_29) rfl rfl k) ?_
    obtain ⟨cq11, kq11, q11a, q11b, q11c⟩ := isOf hZ e10 E_BAD_REQUEST
    obtain ⟨_, _, ⟨T11, L11, k11, n11⟩, -, X11, ⟨Lc11, hQ11, l11, y11, z11⟩, st11⟩ := X10.virtualBack hx (y := (⟨"com/example/ledgerwarden/ledgerwarden/Protocol$Status", "saysAbsent", "()Z"⟩ : MethodName)) (z := (⟨"com/example/ledgerwarden/ledgerwarden/Protocol$Status", "saysAbsent", "()Z"⟩ : MethodName)) hown (mvT hZ (hw _ (List.mem_of_getElem? (i := 8) rfl))) (mvT hZ (hw _ (List.mem_of_getElem? (i := 9) rfl))) (notFace_of_selects (args := #[]) (mvT hZ (hw _ (List.mem_of_getElem? (i := 11) rfl)))) (mvT hZ (hw _ (List.mem_of_getElem? (i := 11) rfl))) (mvT hZ (hw _ (List.mem_of_getElem? (i := 10) rfl))) (by decide) (backOf (W := 0) (own_rm2 l Z a0 hw [] wBAD_REQUEST wNO_SUCH_ENTRY wNO_SUCH_LEDGER (0 : Int32) h0 n0 Z0 S_NO_SUCH_ENTRY S_NO_SUCH_LEDGER (by rw [if_neg hne_3_1, if_neg hne_3_2])) hZ (hw _ (List.mem_of_getElem? (i := 12) rfl)) (hw _ (List.mem_of_getElem? (i := 6) rfl)) (by decide) (by decide)) q11a q11c (g := (mkF m 30 #[.val (.int p1), .val (.int (3 : Int32)), .val (.ref wBAD_REQUEST), .val (.int (0 : Int32))] [(.ref wBAD_REQUEST)])) rfl (by rw [hml]; rfl) (Steps.refl _) (argsL := []) (rest := []) (lenOf own_rm0_pd1 rfl) rfl (by show 2 * 0 + _ ≤ _; exact Nat.le_of_eq rfl) (hb hby at_30) (fun _ _ => ⟨rfl, e10, (by decide : 0 + 0 + 0 ≤ _), (by decide : 0 + 0 + 0 ≤ _)⟩)
    dsimp only [Pt.U, Pt.locs, Pt.cells, Pt.slots] at X11 l11 y11 z11 st11 hQ11
    subst l11 y11 z11
    obtain ⟨rfl, N11q, e11⟩ := hQ11
    have N11 := Fr.app N10 N11q
    refine own_tr (t' := T11.setTop (mkF m 33 #[.val (.int p1), .val (.int (3 : Int32)), .val (.ref wBAD_REQUEST), .val (.int (0 : Int32))] [(.int (0 : Int32))])) st11 ?_
    refine own_st (t' := T11.setTop (mkF m 34 #[.val (.int p1), .val (.int (3 : Int32)), .val (.ref wBAD_REQUEST), .val (.int (0 : Int32))] [(.int (0 : Int32)), (.int (0 : Int32))])) (fun _ k => XS.iloadN X11.here hx rfl (hb hby at_33) rfl k) ?_
    refine own_st (t' := T11.setTop (mkF m 37 #[.val (.int p1), .val (.int (3 : Int32)), .val (.ref wBAD_REQUEST), .val (.int (0 : Int32))] [])) (fun _ k => XS.icmpNo X11.here hx rfl (hb hby at_34) rfl (teq (rfl : (0 : Int32) = (0 : Int32))).2 k) ?_
    refine own_st (t' := T11.setTop (mkF m 38 #[.val (.int p1), .val (.int (3 : Int32)), .val (.ref wBAD_REQUEST), .val (.int (0 : Int32))] [(.int (1 : Int32))])) (fun _ k => XS.iconst X11.here hx rfl (hb hby at_37) k) ?_
    refine own_st (t' := T11.setTop (mkF m 42 #[.val (.int p1), .val (.int (3 : Int32)), .val (.ref wBAD_REQUEST), .val (.int (0 : Int32))] [(.int (1 : Int32))])) (fun _ k => XS.goto X11.here hx rfl (pc0 := 38) (pc' := 42) rfl (hb hby at_38) (by decide) (by decide) k) ?_
    have hv12 : (1 : Int32) = (1 : Int32) := rfl
    obtain ⟨fs, hr, hrun, hended, hW, hsame⟩ := X11.leave (v := some (.int (1 : Int32))) (fun h => by rw [Bd.returns] at h; cases h)
    exact ⟨_, _, retN X11 hx (t := .boolean) Bd.returns (by simp) (hb hby at_42) hr, hrun, hended, hP _ _ ⟨_, _, rfl, ⟨(congrArg (fun z => some (Value.int z)) hv12), N11⟩, ⟨_, rfl⟩, hW, hsame.mono (by decide) (by decide)⟩⟩
  · refine own_st (t' := s₁.setTop (mkF m 9 #[.val (.int p1), .val (.int (4 : Int32)), .unset, .unset] [(.int (4 : Int32))])) (fun _ k => XS.iloadN X0.here hx rfl (hb hby at_8) rfl k) ?_
    obtain ⟨_, _, ⟨T13, L13, k13, n13⟩, -, X13, ⟨Lc13, hQ13, l13, y13, z13⟩, st13⟩ := Jvm.LawKit.callS X0 hx (y := (⟨"com/example/ledgerwarden/ledgerwarden/StatusSaysAbsentPinLaw", "pick", "(I)Lcom/example/ledgerwarden/ledgerwarden/Protocol$Status;"⟩ : MethodName)) hown (mvT hZ (hw _ (List.mem_of_getElem? (i := 1) rfl))) (mvT hZ (hw _ (List.mem_of_getElem? (i := 2) rfl))) (mvT hZ (hw _ (List.mem_of_getElem? (i := 3) rfl))) (mvT hZ (hw _ (List.mem_of_getElem? (i := 4) rfl))) (by decide) (backOf (W := 0) (own_rm1 l Z a0 hw [] (4 : Int32) wOK wNO_SUCH_ENTRY wNO_SUCH_LEDGER wBAD_REQUEST wERROR wFENCED wUNKNOWN wERROR h0 n0 Z0 S_OK S_NO_SUCH_ENTRY S_NO_SUCH_LEDGER S_BAD_REQUEST S_ERROR S_FENCED S_UNKNOWN (by simp)) hZ (hw _ (List.mem_of_getElem? (i := 4) rfl)) (hw _ (List.mem_of_getElem? (i := 3) rfl)) (by decide) (by decide)) (g := (mkF m 9 #[.val (.int p1), .val (.int (4 : Int32)), .unset, .unset] [(.int (4 : Int32))])) rfl (by rw [hml]; rfl) (argsL := [(.int (4 : Int32))]) (rest := []) (lenOf own_rm0_pd0 rfl) rfl (by show 2 * 0 + _ ≤ _; exact Nat.le_of_eq rfl) (hb hby at_9) (fun _ _ => ⟨rfl, e0, (by decide : 0 + 0 ≤ _), (by decide : 0 + 0 ≤ _)⟩)
    dsimp only [Pt.U, Pt.locs, Pt.cells, Pt.slots] at X13 l13 y13 z13 st13 hQ13
    subst l13 y13 z13
    obtain ⟨rfl, N13q, e13⟩ := hQ13
    have N13 := Fr.app N0 N13q
    refine own_st (t' := T13.setTop (mkF m 12 #[.val (.int p1), .val (.int (4 : Int32)), .unset, .unset] [(.ref wERROR)])) st13 ?_
    refine own_st (t' := T13.setTop (mkF m 13 #[.val (.int p1), .val (.int (4 : Int32)), .val (.ref wERROR), .unset] [])) (fun _ k => XS.astoreN X13.here hx rfl (hb hby at_12) rfl rfl (l' := #[.val (.int p1), .val (.int (4 : Int32)), .val (.ref wERROR), .unset]) rfl k) ?_
    refine own_st (t' := T13.setTop (mkF m 14 #[.val (.int p1), .val (.int (4 : Int32)), .val (.ref wERROR), .unset] [(.int (4 : Int32))])) (fun _ k => XS.iloadN X13.here hx rfl (hb hby at_13) rfl k) ?_
    refine own_st (t' := T13.setTop (mkF m 15 #[.val (.int p1), .val (.int (4 : Int32)), .val (.ref wERROR), .unset] [(.int (1 : Int32)), (.int (4 : Int32))])) (fun _ k => XS.iconst X13.here hx rfl (hb hby at_14) k) ?_
    refine own_st (t' := T13.setTop (mkF m 18 #[.val (.int p1), .val (.int (4 : Int32)), .val (.ref wERROR), .unset] [])) (fun _ k => XS.icmpNo X13.here hx rfl (hb hby at_15) rfl (feq (by decide : ¬ ((4 : Int32) = (1 : Int32)))).1 k) ?_
    refine own_st (t' := T13.setTop (mkF m 19 #[.val (.int p1), .val (.int (4 : Int32)), .val (.ref wERROR), .unset] [(.int (4 : Int32))])) (fun _ k => XS.iloadN X13.here hx rfl (hb hby at_18) rfl k) ?_
    refine own_st (t' := T13.setTop (mkF m 20 #[.val (.int p1), .val (.int (4 : Int32)), .val (.ref wERROR), .unset] [(.int (2 : Int32)), (.int (4 : Int32))])) (fun _ k => XS.iconst X13.here hx rfl (hb hby at_19) k) ?_
    refine own_st (t' := T13.setTop (mkF m 27 #[.val (.int p1), .val (.int (4 : Int32)), .val (.ref wERROR), .unset] [])) (fun _ k => XS.icmpYes X13.here hx rfl (pc0 := 20) (pc' := 27) rfl (hb hby at_20) rfl (feq (by decide : ¬ ((4 : Int32) = (2 : Int32)))).2 (by decide) (by decide) k) ?_
    refine own_st (t' := T13.setTop (mkF m 28 #[.val (.int p1), .val (.int (4 : Int32)), .val (.ref wERROR), .unset] [(.int (0 : Int32))])) (fun _ k => XS.iconst X13.here hx rfl (hb hby at_27) k) ?_
    refine own_st (t' := T13.setTop (mkF m 29 #[.val (.int p1), .val (.int (4 : Int32)), .val (.ref wERROR), .val (.int (0 : Int32))] [])) (fun _ k => XS.istoreN X13.here hx rfl (hb hby at_28) rfl (l' := #[.val (.int p1), .val (.int (4 : Int32)), .val (.ref wERROR), .val (.int (0 : Int32))]) rfl k) ?_
    refine own_st (t' := T13.setTop (mkF m 30 #[.val (.int p1), .val (.int (4 : Int32)), .val (.ref wERROR), .val (.int (0 : Int32))] [(.ref wERROR)])) (fun _ k => XS.aloadN X13.here hx rfl (hb hby at_29) rfl rfl k) ?_
    obtain ⟨cq14, kq14, q14a, q14b, q14c⟩ := isOf hZ e13 E_ERROR
    obtain ⟨_, _, ⟨T14, L14, k14, n14⟩, -, X14, ⟨Lc14, hQ14, l14, y14, z14⟩, st14⟩ := X13.virtualBack hx (y := (⟨"com/example/ledgerwarden/ledgerwarden/Protocol$Status", "saysAbsent", "()Z"⟩ : MethodName)) (z := (⟨"com/example/ledgerwarden/ledgerwarden/Protocol$Status", "saysAbsent", "()Z"⟩ : MethodName)) hown (mvT hZ (hw _ (List.mem_of_getElem? (i := 8) rfl))) (mvT hZ (hw _ (List.mem_of_getElem? (i := 9) rfl))) (notFace_of_selects (args := #[]) (mvT hZ (hw _ (List.mem_of_getElem? (i := 11) rfl)))) (mvT hZ (hw _ (List.mem_of_getElem? (i := 11) rfl))) (mvT hZ (hw _ (List.mem_of_getElem? (i := 10) rfl))) (by decide) (backOf (W := 0) (own_rm2 l Z a0 hw [] wERROR wNO_SUCH_ENTRY wNO_SUCH_LEDGER (0 : Int32) h0 n0 Z0 S_NO_SUCH_ENTRY S_NO_SUCH_LEDGER (by rw [if_neg hne_4_1, if_neg hne_4_2])) hZ (hw _ (List.mem_of_getElem? (i := 12) rfl)) (hw _ (List.mem_of_getElem? (i := 6) rfl)) (by decide) (by decide)) q14a q14c (g := (mkF m 30 #[.val (.int p1), .val (.int (4 : Int32)), .val (.ref wERROR), .val (.int (0 : Int32))] [(.ref wERROR)])) rfl (by rw [hml]; rfl) (Steps.refl _) (argsL := []) (rest := []) (lenOf own_rm0_pd1 rfl) rfl (by show 2 * 0 + _ ≤ _; exact Nat.le_of_eq rfl) (hb hby at_30) (fun _ _ => ⟨rfl, e13, (by decide : 0 + 0 + 0 ≤ _), (by decide : 0 + 0 + 0 ≤ _)⟩)
    dsimp only [Pt.U, Pt.locs, Pt.cells, Pt.slots] at X14 l14 y14 z14 st14 hQ14
    subst l14 y14 z14
    obtain ⟨rfl, N14q, e14⟩ := hQ14
    have N14 := Fr.app N13 N14q
    refine own_tr (t' := T14.setTop (mkF m 33 #[.val (.int p1), .val (.int (4 : Int32)), .val (.ref wERROR), .val (.int (0 : Int32))] [(.int (0 : Int32))])) st14 ?_
    refine own_st (t' := T14.setTop (mkF m 34 #[.val (.int p1), .val (.int (4 : Int32)), .val (.ref wERROR), .val (.int (0 : Int32))] [(.int (0 : Int32)), (.int (0 : Int32))])) (fun _ k => XS.iloadN X14.here hx rfl (hb hby at_33) rfl k) ?_
    refine own_st (t' := T14.setTop (mkF m 37 #[.val (.int p1), .val (.int (4 : Int32)), .val (.ref wERROR), .val (.int (0 : Int32))] [])) (fun _ k => XS.icmpNo X14.here hx rfl (hb hby at_34) rfl (teq (rfl : (0 : Int32) = (0 : Int32))).2 k) ?_
    refine own_st (t' := T14.setTop (mkF m 38 #[.val (.int p1), .val (.int (4 : Int32)), .val (.ref wERROR), .val (.int (0 : Int32))] [(.int (1 : Int32))])) (fun _ k => XS.iconst X14.here hx rfl (hb hby at_37) k) ?_
    refine own_st (t' := T14.setTop (mkF m 42 #[.val (.int p1), .val (.int (4 : Int32)), .val (.ref wERROR), .val (.int (0 : Int32))] [(.int (1 : Int32))])) (fun _ k => XS.goto X14.here hx rfl (pc0 := 38) (pc' := 42) rfl (hb hby at_38) (by decide) (by decide) k) ?_
    have hv15 : (1 : Int32) = (1 : Int32) := rfl
    obtain ⟨fs, hr, hrun, hended, hW, hsame⟩ := X14.leave (v := some (.int (1 : Int32))) (fun h => by rw [Bd.returns] at h; cases h)
    exact ⟨_, _, retN X14 hx (t := .boolean) Bd.returns (by simp) (hb hby at_42) hr, hrun, hended, hP _ _ ⟨_, _, rfl, ⟨(congrArg (fun z => some (Value.int z)) hv15), N14⟩, ⟨_, rfl⟩, hW, hsame.mono (by decide) (by decide)⟩⟩
  · refine own_st (t' := s₁.setTop (mkF m 9 #[.val (.int p1), .val (.int (5 : Int32)), .unset, .unset] [(.int (5 : Int32))])) (fun _ k => XS.iloadN X0.here hx rfl (hb hby at_8) rfl k) ?_
    obtain ⟨_, _, ⟨T16, L16, k16, n16⟩, -, X16, ⟨Lc16, hQ16, l16, y16, z16⟩, st16⟩ := Jvm.LawKit.callS X0 hx (y := (⟨"com/example/ledgerwarden/ledgerwarden/StatusSaysAbsentPinLaw", "pick", "(I)Lcom/example/ledgerwarden/ledgerwarden/Protocol$Status;"⟩ : MethodName)) hown (mvT hZ (hw _ (List.mem_of_getElem? (i := 1) rfl))) (mvT hZ (hw _ (List.mem_of_getElem? (i := 2) rfl))) (mvT hZ (hw _ (List.mem_of_getElem? (i := 3) rfl))) (mvT hZ (hw _ (List.mem_of_getElem? (i := 4) rfl))) (by decide) (backOf (W := 0) (own_rm1 l Z a0 hw [] (5 : Int32) wOK wNO_SUCH_ENTRY wNO_SUCH_LEDGER wBAD_REQUEST wERROR wFENCED wUNKNOWN wFENCED h0 n0 Z0 S_OK S_NO_SUCH_ENTRY S_NO_SUCH_LEDGER S_BAD_REQUEST S_ERROR S_FENCED S_UNKNOWN (by simp)) hZ (hw _ (List.mem_of_getElem? (i := 4) rfl)) (hw _ (List.mem_of_getElem? (i := 3) rfl)) (by decide) (by decide)) (g := (mkF m 9 #[.val (.int p1), .val (.int (5 : Int32)), .unset, .unset] [(.int (5 : Int32))])) rfl (by rw [hml]; rfl) (argsL := [(.int (5 : Int32))]) (rest := []) (lenOf own_rm0_pd0 rfl) rfl (by show 2 * 0 + _ ≤ _; exact Nat.le_of_eq rfl) (hb hby at_9) (fun _ _ => ⟨rfl, e0, (by decide : 0 + 0 ≤ _), (by decide : 0 + 0 ≤ _)⟩)
    dsimp only [Pt.U, Pt.locs, Pt.cells, Pt.slots] at X16 l16 y16 z16 st16 hQ16
    subst l16 y16 z16
    obtain ⟨rfl, N16q, e16⟩ := hQ16
    have N16 := Fr.app N0 N16q
    refine own_st (t' := T16.setTop (mkF m 12 #[.val (.int p1), .val (.int (5 : Int32)), .unset, .unset] [(.ref wFENCED)])) st16 ?_
    refine own_st (t' := T16.setTop (mkF m 13 #[.val (.int p1), .val (.int (5 : Int32)), .val (.ref wFENCED), .unset] [])) (fun _ k => XS.astoreN X16.here hx rfl (hb hby at_12) rfl rfl (l' := #[.val (.int p1), .val (.int (5 : Int32)), .val (.ref wFENCED), .unset]) rfl k) ?_
    refine own_st (t' := T16.setTop (mkF m 14 #[.val (.int p1), .val (.int (5 : Int32)), .val (.ref wFENCED), .unset] [(.int (5 : Int32))])) (fun _ k => XS.iloadN X16.here hx rfl (hb hby at_13) rfl k) ?_
    refine own_st (t' := T16.setTop (mkF m 15 #[.val (.int p1), .val (.int (5 : Int32)), .val (.ref wFENCED), .unset] [(.int (1 : Int32)), (.int (5 : Int32))])) (fun _ k => XS.iconst X16.here hx rfl (hb hby at_14) k) ?_
    refine own_st (t' := T16.setTop (mkF m 18 #[.val (.int p1), .val (.int (5 : Int32)), .val (.ref wFENCED), .unset] [])) (fun _ k => XS.icmpNo X16.here hx rfl (hb hby at_15) rfl (feq (by decide : ¬ ((5 : Int32) = (1 : Int32)))).1 k) ?_
    refine own_st (t' := T16.setTop (mkF m 19 #[.val (.int p1), .val (.int (5 : Int32)), .val (.ref wFENCED), .unset] [(.int (5 : Int32))])) (fun _ k => XS.iloadN X16.here hx rfl (hb hby at_18) rfl k) ?_
    refine own_st (t' := T16.setTop (mkF m 20 #[.val (.int p1), .val (.int (5 : Int32)), .val (.ref wFENCED), .unset] [(.int (2 : Int32)), (.int (5 : Int32))])) (fun _ k => XS.iconst X16.here hx rfl (hb hby at_19) k) ?_
    refine own_st (t' := T16.setTop (mkF m 27 #[.val (.int p1), .val (.int (5 : Int32)), .val (.ref wFENCED), .unset] [])) (fun _ k => XS.icmpYes X16.here hx rfl (pc0 := 20) (pc' := 27) rfl (hb hby at_20) rfl (feq (by decide : ¬ ((5 : Int32) = (2 : Int32)))).2 (by decide) (by decide) k) ?_
    refine own_st (t' := T16.setTop (mkF m 28 #[.val (.int p1), .val (.int (5 : Int32)), .val (.ref wFENCED), .unset] [(.int (0 : Int32))])) (fun _ k => XS.iconst X16.here hx rfl (hb hby at_27) k) ?_
    refine own_st (t' := T16.setTop (mkF m 29 #[.val (.int p1), .val (.int (5 : Int32)), .val (.ref wFENCED), .val (.int (0 : Int32))] [])) (fun _ k => XS.istoreN X16.here hx rfl (hb hby at_28) rfl (l' := #[.val (.int p1), .val (.int (5 : Int32)), .val (.ref wFENCED), .val (.int (0 : Int32))]) rfl k) ?_
    refine own_st (t' := T16.setTop (mkF m 30 #[.val (.int p1), .val (.int (5 : Int32)), .val (.ref wFENCED), .val (.int (0 : Int32))] [(.ref wFENCED)])) (fun _ k => XS.aloadN X16.here hx rfl (hb hby at_29) rfl rfl k) ?_
    obtain ⟨cq17, kq17, q17a, q17b, q17c⟩ := isOf hZ e16 E_FENCED
    obtain ⟨_, _, ⟨T17, L17, k17, n17⟩, -, X17, ⟨Lc17, hQ17, l17, y17, z17⟩, st17⟩ := X16.virtualBack hx (y := (⟨"com/example/ledgerwarden/ledgerwarden/Protocol$Status", "saysAbsent", "()Z"⟩ : MethodName)) (z := (⟨"com/example/ledgerwarden/ledgerwarden/Protocol$Status", "saysAbsent", "()Z"⟩ : MethodName)) hown (mvT hZ (hw _ (List.mem_of_getElem? (i := 8) rfl))) (mvT hZ (hw _ (List.mem_of_getElem? (i := 9) rfl))) (notFace_of_selects (args := #[]) (mvT hZ (hw _ (List.mem_of_getElem? (i := 11) rfl)))) (mvT hZ (hw _ (List.mem_of_getElem? (i := 11) rfl))) (mvT hZ (hw _ (List.mem_of_getElem? (i := 10) rfl))) (by decide) (backOf (W := 0) (own_rm2 l Z a0 hw [] wFENCED wNO_SUCH_ENTRY wNO_SUCH_LEDGER (0 : Int32) h0 n0 Z0 S_NO_SUCH_ENTRY S_NO_SUCH_LEDGER (by rw [if_neg hne_5_1, if_neg hne_5_2])) hZ (hw _ (List.mem_of_getElem? (i := 12) rfl)) (hw _ (List.mem_of_getElem? (i := 6) rfl)) (by decide) (by decide)) q17a q17c (g := (mkF m 30 #[.val (.int p1), .val (.int (5 : Int32)), .val (.ref wFENCED), .val (.int (0 : Int32))] [(.ref wFENCED)])) rfl (by rw [hml]; rfl) (Steps.refl _) (argsL := []) (rest := []) (lenOf own_rm0_pd1 rfl) rfl (by show 2 * 0 + _ ≤ _; exact Nat.le_of_eq rfl) (hb hby at_30) (fun _ _ => ⟨rfl, e16, (by decide : 0 + 0 + 0 ≤ _), (by decide : 0 + 0 + 0 ≤ _)⟩)
    dsimp only [Pt.U, Pt.locs, Pt.cells, Pt.slots] at X17 l17 y17 z17 st17 hQ17
    subst l17 y17 z17
    obtain ⟨rfl, N17q, e17⟩ := hQ17
    have N17 := Fr.app N16 N17q
    refine own_tr (t' := T17.setTop (mkF m 33 #[.val (.int p1), .val (.int (5 : Int32)), .val (.ref wFENCED), .val (.int (0 : Int32))] [(.int (0 : Int32))])) st17 ?_
    refine own_st (t' := T17.setTop (mkF m 34 #[.val (.int p1), .val (.int (5 : Int32)), .val (.ref wFENCED), .val (.int (0 : Int32))] [(.int (0 : Int32)), (.int (0 : Int32))])) (fun _ k => XS.iloadN X17.here hx rfl (hb hby at_33) rfl k) ?_
    refine own_st (t' := T17.setTop (mkF m 37 #[.val (.int p1), .val (.int (5 : Int32)), .val (.ref wFENCED), .val (.int (0 : Int32))] [])) (fun _ k => XS.icmpNo X17.here hx rfl (hb hby at_34) rfl (teq (rfl : (0 : Int32) = (0 : Int32))).2 k) ?_
    refine own_st (t' := T17.setTop (mkF m 38 #[.val (.int p1), .val (.int (5 : Int32)), .val (.ref wFENCED), .val (.int (0 : Int32))] [(.int (1 : Int32))])) (fun _ k => XS.iconst X17.here hx rfl (hb hby at_37) k) ?_
    refine own_st (t' := T17.setTop (mkF m 42 #[.val (.int p1), .val (.int (5 : Int32)), .val (.ref wFENCED), .val (.int (0 : Int32))] [(.int (1 : Int32))])) (fun _ k => XS.goto X17.here hx rfl (pc0 := 38) (pc' := 42) rfl (hb hby at_38) (by decide) (by decide) k) ?_
    have hv18 : (1 : Int32) = (1 : Int32) := rfl
    obtain ⟨fs, hr, hrun, hended, hW, hsame⟩ := X17.leave (v := some (.int (1 : Int32))) (fun h => by rw [Bd.returns] at h; cases h)
    exact ⟨_, _, retN X17 hx (t := .boolean) Bd.returns (by simp) (hb hby at_42) hr, hrun, hended, hP _ _ ⟨_, _, rfl, ⟨(congrArg (fun z => some (Value.int z)) hv18), N17⟩, ⟨_, rfl⟩, hW, hsame.mono (by decide) (by decide)⟩⟩
  · refine own_st (t' := s₁.setTop (mkF m 9 #[.val (.int p1), .val (.int (6 : Int32)), .unset, .unset] [(.int (6 : Int32))])) (fun _ k => XS.iloadN X0.here hx rfl (hb hby at_8) rfl k) ?_
    obtain ⟨_, _, ⟨T19, L19, k19, n19⟩, -, X19, ⟨Lc19, hQ19, l19, y19, z19⟩, st19⟩ := Jvm.LawKit.callS X0 hx (y := (⟨"com/example/ledgerwarden/ledgerwarden/StatusSaysAbsentPinLaw", "pick", "(I)Lcom/example/ledgerwarden/ledgerwarden/Protocol$Status;"⟩ : MethodName)) hown (mvT hZ (hw _ (List.mem_of_getElem? (i := 1) rfl))) (mvT hZ (hw _ (List.mem_of_getElem? (i := 2) rfl))) (mvT hZ (hw _ (List.mem_of_getElem? (i := 3) rfl))) (mvT hZ (hw _ (List.mem_of_getElem? (i := 4) rfl))) (by decide) (backOf (W := 0) (own_rm1 l Z a0 hw [] (6 : Int32) wOK wNO_SUCH_ENTRY wNO_SUCH_LEDGER wBAD_REQUEST wERROR wFENCED wUNKNOWN wUNKNOWN h0 n0 Z0 S_OK S_NO_SUCH_ENTRY S_NO_SUCH_LEDGER S_BAD_REQUEST S_ERROR S_FENCED S_UNKNOWN (by simp)) hZ (hw _ (List.mem_of_getElem? (i := 4) rfl)) (hw _ (List.mem_of_getElem? (i := 3) rfl)) (by decide) (by decide)) (g := (mkF m 9 #[.val (.int p1), .val (.int (6 : Int32)), .unset, .unset] [(.int (6 : Int32))])) rfl (by rw [hml]; rfl) (argsL := [(.int (6 : Int32))]) (rest := []) (lenOf own_rm0_pd0 rfl) rfl (by show 2 * 0 + _ ≤ _; exact Nat.le_of_eq rfl) (hb hby at_9) (fun _ _ => ⟨rfl, e0, (by decide : 0 + 0 ≤ _), (by decide : 0 + 0 ≤ _)⟩)
    dsimp only [Pt.U, Pt.locs, Pt.cells, Pt.slots] at X19 l19 y19 z19 st19 hQ19
    subst l19 y19 z19
    obtain ⟨rfl, N19q, e19⟩ := hQ19
    have N19 := Fr.app N0 N19q
    refine own_st (t' := T19.setTop (mkF m 12 #[.val (.int p1), .val (.int (6 : Int32)), .unset, .unset] [(.ref wUNKNOWN)])) st19 ?_
    refine own_st (t' := T19.setTop (mkF m 13 #[.val (.int p1), .val (.int (6 : Int32)), .val (.ref wUNKNOWN), .unset] [])) (fun _ k => XS.astoreN X19.here hx rfl (hb hby at_12) rfl rfl (l' := #[.val (.int p1), .val (.int (6 : Int32)), .val (.ref wUNKNOWN), .unset]) rfl k) ?_
    refine own_st (t' := T19.setTop (mkF m 14 #[.val (.int p1), .val (.int (6 : Int32)), .val (.ref wUNKNOWN), .unset] [(.int (6 : Int32))])) (fun _ k => XS.iloadN X19.here hx rfl (hb hby at_13) rfl k) ?_
    refine own_st (t' := T19.setTop (mkF m 15 #[.val (.int p1), .val (.int (6 : Int32)), .val (.ref wUNKNOWN), .unset] [(.int (1 : Int32)), (.int (6 : Int32))])) (fun _ k => XS.iconst X19.here hx rfl (hb hby at_14) k) ?_
    refine own_st (t' := T19.setTop (mkF m 18 #[.val (.int p1), .val (.int (6 : Int32)), .val (.ref wUNKNOWN), .unset] [])) (fun _ k => XS.icmpNo X19.here hx rfl (hb hby at_15) rfl (feq (by decide : ¬ ((6 : Int32) = (1 : Int32)))).1 k) ?_
    refine own_st (t' := T19.setTop (mkF m 19 #[.val (.int p1), .val (.int (6 : Int32)), .val (.ref wUNKNOWN), .unset] [(.int (6 : Int32))])) (fun _ k => XS.iloadN X19.here hx rfl (hb hby at_18) rfl k) ?_
    refine own_st (t' := T19.setTop (mkF m 20 #[.val (.int p1), .val (.int (6 : Int32)), .val (.ref wUNKNOWN), .unset] [(.int (2 : Int32)), (.int (6 : Int32))])) (fun _ k => XS.iconst X19.here hx rfl (hb hby at_19) k) ?_
    refine own_st (t' := T19.setTop (mkF m 27 #[.val (.int p1), .val (.int (6 : Int32)), .val (.ref wUNKNOWN), .unset] [])) (fun _ k => XS.icmpYes X19.here hx rfl (pc0 := 20) (pc' := 27) rfl (hb hby at_20) rfl (feq (by decide : ¬ ((6 : Int32) = (2 : Int32)))).2 (by decide) (by decide) k) ?_
    refine own_st (t' := T19.setTop (mkF m 28 #[.val (.int p1), .val (.int (6 : Int32)), .val (.ref wUNKNOWN), .unset] [(.int (0 : Int32))])) (fun _ k => XS.iconst X19.here hx rfl (hb hby at_27) k) ?_
    refine own_st (t' := T19.setTop (mkF m 29 #[.val (.int p1), .val (.int (6 : Int32)), .val (.ref wUNKNOWN), .val (.int (0 : Int32))] [])) (fun _ k => XS.istoreN X19.here hx rfl (hb hby at_28) rfl (l' := #[.val (.int p1), .val (.int (6 : Int32)), .val (.ref wUNKNOWN), .val (.int (0 : Int32))]) rfl k) ?_
    refine own_st (t' := T19.setTop (mkF m 30 #[.val (.int p1), .val (.int (6 : Int32)), .val (.ref wUNKNOWN), .val (.int (0 : Int32))] [(.ref wUNKNOWN)])) (fun _ k => XS.aloadN X19.here hx rfl (hb hby at_29) rfl rfl k) ?_
    obtain ⟨cq20, kq20, q20a, q20b, q20c⟩ := isOf hZ e19 E_UNKNOWN
    obtain ⟨_, _, ⟨T20, L20, k20, n20⟩, -, X20, ⟨Lc20, hQ20, l20, y20, z20⟩, st20⟩ := X19.virtualBack hx (y := (⟨"com/example/ledgerwarden/ledgerwarden/Protocol$Status", "saysAbsent", "()Z"⟩ : MethodName)) (z := (⟨"com/example/ledgerwarden/ledgerwarden/Protocol$Status", "saysAbsent", "()Z"⟩ : MethodName)) hown (mvT hZ (hw _ (List.mem_of_getElem? (i := 8) rfl))) (mvT hZ (hw _ (List.mem_of_getElem? (i := 9) rfl))) (notFace_of_selects (args := #[]) (mvT hZ (hw _ (List.mem_of_getElem? (i := 11) rfl)))) (mvT hZ (hw _ (List.mem_of_getElem? (i := 11) rfl))) (mvT hZ (hw _ (List.mem_of_getElem? (i := 10) rfl))) (by decide) (backOf (W := 0) (own_rm2 l Z a0 hw [] wUNKNOWN wNO_SUCH_ENTRY wNO_SUCH_LEDGER (0 : Int32) h0 n0 Z0 S_NO_SUCH_ENTRY S_NO_SUCH_LEDGER (by rw [if_neg hne_6_1, if_neg hne_6_2])) hZ (hw _ (List.mem_of_getElem? (i := 12) rfl)) (hw _ (List.mem_of_getElem? (i := 6) rfl)) (by decide) (by decide)) q20a q20c (g := (mkF m 30 #[.val (.int p1), .val (.int (6 : Int32)), .val (.ref wUNKNOWN), .val (.int (0 : Int32))] [(.ref wUNKNOWN)])) rfl (by rw [hml]; rfl) (Steps.refl _) (argsL := []) (rest := []) (lenOf own_rm0_pd1 rfl) rfl (by show 2 * 0 + _ ≤ _; exact Nat.le_of_eq rfl) (hb hby at_30) (fun _ _ => ⟨rfl, e19, (by decide : 0 + 0 + 0 ≤ _), (by decide : 0 + 0 + 0 ≤ _)⟩)
    dsimp only [Pt.U, Pt.locs, Pt.cells, Pt.slots] at X20 l20 y20 z20 st20 hQ20
    subst l20 y20 z20
    obtain ⟨rfl, N20q, e20⟩ := hQ20
    have N20 := Fr.app N19 N20q
    refine own_tr (t' := T20.setTop (mkF m 33 #[.val (.int p1), .val (.int (6 : Int32)), .val (.ref wUNKNOWN), .val (.int (0 : Int32))] [(.int (0 : Int32))])) st20 ?_
    refine own_st (t' := T20.setTop (mkF m 34 #[.val (.int p1), .val (.int (6 : Int32)), .val (.ref wUNKNOWN), .val (.int (0 : Int32))] [(.int (0 : Int32)), (.int (0 : Int32))])) (fun _ k => XS.iloadN X20.here hx rfl (hb hby at_33) rfl k) ?_
    refine own_st (t' := T20.setTop (mkF m 37 #[.val (.int p1), .val (.int (6 : Int32)), .val (.ref wUNKNOWN), .val (.int (0 : Int32))] [])) (fun _ k => XS.icmpNo X20.here hx rfl (hb hby at_34) rfl (teq (rfl : (0 : Int32) = (0 : Int32))).2 k) ?_
    refine own_st (t' := T20.setTop (mkF m 38 #[.val (.int p1), .val (.int (6 : Int32)), .val (.ref wUNKNOWN), .val (.int (0 : Int32))] [(.int (1 : Int32))])) (fun _ k => XS.iconst X20.here hx rfl (hb hby at_37) k) ?_
    refine own_st (t' := T20.setTop (mkF m 42 #[.val (.int p1), .val (.int (6 : Int32)), .val (.ref wUNKNOWN), .val (.int (0 : Int32))] [(.int (1 : Int32))])) (fun _ k => XS.goto X20.here hx rfl (pc0 := 38) (pc' := 42) rfl (hb hby at_38) (by decide) (by decide) k) ?_
    have hv21 : (1 : Int32) = (1 : Int32) := rfl
    obtain ⟨fs, hr, hrun, hended, hW, hsame⟩ := X20.leave (v := some (.int (1 : Int32))) (fun h => by rw [Bd.returns] at h; cases h)
    exact ⟨_, _, retN X20 hx (t := .boolean) Bd.returns (by simp) (hb hby at_42) hr, hrun, hended, hP _ _ ⟨_, _, rfl, ⟨(congrArg (fun z => some (Value.int z)) hv21), N20⟩, ⟨_, rfl⟩, hW, hsame.mono (by decide) (by decide)⟩⟩

set_option maxRecDepth 65536 in
set_option maxHeartbeats 40000000 in
theorem comes_1 {Post : Tables → Env → Array Value → State → Outcome → State → Prop} (hpost : ∀ tb e args s v u, (limb_1_1.after args s (.returned v) u = true ∧ limb_1_2.after args s (.returned v) u = true ∧ True) → FrameEnd s (.returned v) u (Jvm.fieldLocs frame_1_writes args s ++ Jvm.arrayLocs frame_1_arrays args s ++ Jvm.staticLocs frame_1_statics s) 0 0 → Post tb e args s (.returned v) u) :
    ArmFor flags0 classFile x code maxLocals ret World_1 tables_1 room_1 Calls_1 rest_1 Pre_1 Post := by
  intro l hfl _ _ p e ha hc hk s m args below hf hA hF happ hP
  obtain ⟨hcalls, hrest, hpre⟩ := hP
  obtain ⟨-, -, -, hnamed, -, -, -, hat⟩ := (Spec.applies_iff hf).mp happ
  obtain ⟨hg, hn⟩ := and_e (Cond.before_iff.mp (show (Jvm.Cond.and given_1 narrow_1).before args s = true from hpre))
  obtain ⟨hcnt, hg0⟩ := and_e hg
  obtain ⟨w0, rfl⟩ : ∃ w0 : Value, args = #[w0] := by
    have hs : args.size = 1 := by simpa [Cond.value, given_1] using hcnt
    obtain ⟨L⟩ := args
    match L, hs with
    | [w0], _ => exact ⟨w0, rfl⟩
  have hw := fun d (hd : d ∈ tables_1) => atoms_spec (ws := Jvm.Cond.code x code maxLocals ret :: tables_1) hat d (List.mem_cons_of_mem _ hd)
  have hfit : Fit s := fun {y c} hc i hi => by
    obtain ⟨ha, rfl⟩ := Array.getElem?_eq_some_iff.mp hc
    have q := List.all_eq_true.mp ((Array.all_eq_true_iff_forall_mem.mp hF) _ (Array.getElem_mem ha)) i (List.mem_range.mpr hi)
    simpa [Array.getElem?_eq_getElem hi] using q
  obtain ⟨i0, ei0⟩ := is_v hg0
  obtain rfl : w0 = (.int i0) := Option.some.inj ei0
  obtain ⟨k0, kr_0⟩ := and_e hn
  obtain ⟨k1, kr_1⟩ := and_e kr_0
  obtain ⟨k2, kr_2⟩ := and_e kr_1
  obtain ⟨k3, kr_3⟩ := and_e kr_2
  obtain ⟨k4, kr_4⟩ := and_e kr_3
  obtain ⟨k5, kr_5⟩ := and_e kr_4
  obtain ⟨k6, kr_6⟩ := and_e kr_5
  obtain ⟨k7, kr_7⟩ := and_e kr_6
  obtain ⟨k8, kr_8⟩ := and_e kr_7
  obtain ⟨k9, kr_9⟩ := and_e kr_8
  obtain ⟨k10, kr_10⟩ := and_e kr_9
  obtain ⟨k11, kr_11⟩ := and_e kr_10
  obtain ⟨k12, kr_12⟩ := and_e kr_11
  have k13 := kr_12
  obtain ⟨v0, e0, S0, E0⟩ := own_enum k0 (Or.inr ⟨(hw _ (List.mem_of_getElem? (i := 6) rfl)), (hw _ (List.mem_of_getElem? (i := 7) rfl))⟩)
  obtain ⟨v1, e1, S1, E1⟩ := own_enum k1 (Or.inr ⟨(hw _ (List.mem_of_getElem? (i := 6) rfl)), (hw _ (List.mem_of_getElem? (i := 14) rfl))⟩)
  obtain ⟨v2, e2, S2, E2⟩ := own_enum k4 (Or.inr ⟨(hw _ (List.mem_of_getElem? (i := 6) rfl)), (hw _ (List.mem_of_getElem? (i := 16) rfl))⟩)
  obtain ⟨v3, e3, S3, E3⟩ := own_enum k6 (Or.inr ⟨(hw _ (List.mem_of_getElem? (i := 6) rfl)), (hw _ (List.mem_of_getElem? (i := 18) rfl))⟩)
  obtain ⟨v4, e4, S4, E4⟩ := own_enum k12 (Or.inr ⟨(hw _ (List.mem_of_getElem? (i := 6) rfl)), (hw _ (List.mem_of_getElem? (i := 24) rfl))⟩)
  obtain ⟨v5, e5, S5, E5⟩ := own_enum k8 (Or.inr ⟨(hw _ (List.mem_of_getElem? (i := 6) rfl)), (hw _ (List.mem_of_getElem? (i := 20) rfl))⟩)
  obtain ⟨v6, e6, S6, E6⟩ := own_enum k10 (Or.inr ⟨(hw _ (List.mem_of_getElem? (i := 6) rfl)), (hw _ (List.mem_of_getElem? (i := 22) rfl))⟩)
  have hne_0_1 := own_ne (own_ord e0 k2) (own_ord e1 k3) (by decide)
  have hne_0_2 := own_ne (own_ord e0 k2) (own_ord e2 k5) (by decide)
  have hne_2_1 := own_ne (own_ord e2 k5) (own_ord e1 k3) (by decide)
  have hne_3_1 := own_ne (own_ord e3 k7) (own_ord e1 k3) (by decide)
  have hne_3_2 := own_ne (own_ord e3 k7) (own_ord e2 k5) (by decide)
  have hne_4_1 := own_ne (own_ord e4 k13) (own_ord e1 k3) (by decide)
  have hne_4_2 := own_ne (own_ord e4 k13) (own_ord e2 k5) (by decide)
  have hne_5_1 := own_ne (own_ord e5 k9) (own_ord e1 k3) (by decide)
  have hne_5_2 := own_ne (own_ord e5 k9) (own_ord e2 k5) (by decide)
  have hne_6_1 := own_ne (own_ord e6 k11) (own_ord e1 k3) (by decide)
  have hne_6_2 := own_ne (own_ord e6 k11) (own_ord e2 k5) (by decide)
  obtain ⟨n, o, h1, h2, h3, _, L, rfl, ⟨rfl, N⟩, hq⟩ := own_rm0 l s _ hw tables_1 i0 v0 v1 v2 v3 v4 v5 v6 s.heap s.heap.size (Nat.le_refl _) S0 S1 S2 S3 S4 S5 S6 E0 E1 E2 E3 E4 E5 E6 hne_0_1 hne_0_2 hne_2_1 hne_3_1 hne_3_2 hne_4_1 hne_4_2 hne_5_1 hne_5_2 hne_6_1 hne_6_2 p e ha hc hk s m _ below hf ((Spec.applies_iff_loose hf).mp happ).1 ⟨rfl, State.Warmed39.refl s, rfl⟩ trivial
  refine ⟨n, _, h1, h2, h3, hpost _ _ _ _ _ _ ⟨Cond.after_iff.mpr rfl, Cond.after_iff.mpr (eq_i res_at (Term.int_eval (1)) rfl), trivial⟩ ⟨hq.1, hq.2.1, (hq.2.2.sift fun y hy => Or.inr (N y hy)).mono (by decide) (by decide)⟩⟩
theorem main_1_1 : Claimed_1_1 := comes_1 fun _ _ _ _ _ _ h hF => ⟨h.1, hF⟩
theorem main_1_2 : Claimed_1_2 := comes_1 fun _ _ _ _ _ _ h hF => ⟨h.2.1, hF⟩
end Jvm.Pilot.@@N@@
namespace Jvm.Pilot.@@N@@
open Jvm Jvm.ClassFile Sem Op Lib Jvm.Free Jvm.Stand Jvm.Pilot.@@N@@.Jvm.D
/-! MADE BY PROGRAM (witnessworld.py) out of the Statement's table words and the real class files: 12 classes; the members and pool entries that the words name. The judged class is class 1, her method 2. -/
namespace start1
open Jvm.ClassFile
def u (s : String) : CpInfo := .utf8 (stringToUtf16 s)
/-- a pool by its gaps: so many unusable entries, then the entry; so many at the end -/
def gap : Nat → List CpInfo → List CpInfo
  | 0, r => r
  | n + 1, r => .unusable :: gap n r
def poolList (es : List (Nat × CpInfo)) (last : Nat) : List CpInfo := es.foldr (fun e r => gap e.1 (e.2 :: r)) (gap last [])
def pool (es : List (Nat × CpInfo)) (last : Nat) : Array CpInfo := ⟨poolList es last⟩
def fileOf (pool : Array CpInfo) (this : Nat) (attrs : Array Attribute := #[]) (ms : Array MethodInfo := #[]) (fl : Nat := 33) (sup : Nat := 0) (ifs : Array Nat := #[]) (fds : Array FieldInfo := #[]) : ClassFile where
  minorVersion := 0
  majorVersion := 65
  constantPool := pool
  accessFlags := fl
  thisClass := this
  superClass := sup
  interfaces := ifs
  fields := fds
  methods := ms
  attributes := attrs
def plain (name : String) (sup : Option ClassId) : Class where
  name := name
  kind := .ordinary
  loader := none
  accessFlags := 33
  super := sup
  interfaces := #[]
  cf := none
  fields := #[]
  methods := #[]
  instanceTypes := #[]
  staticTypes := #[]
  resolved := #[]
  callSites := []
  init := .initialized
  statics := none
  mirror := none

def pool0 : Array CpInfo := pool [(5, u "<init>"), (0, u "()V"), (1, .class_ 10), (1, u "java/lang/Object")] 113

def k0m0 : Method := { name := "<init>", desc := "()V", sig := { parameters := [], returnType := none }, accessFlags := 1, code := none }
/-- java/lang/Object -/
def k0 : Class := { plain "java/lang/Object" none with
  accessFlags := 33
  interfaces := #[]
  cf := some (fileOf pool0 8 #[] #[{ accessFlags := 1, nameIndex := 5, descriptorIndex := 6, attributes := #[] }] 33 0 #[] #[])
  fields := #[]
  methods := #[k0m0]
  instanceTypes := #[]
  staticTypes := #[]
  resolved := Array.replicate 124 none
  statics := none }

def pool1 : Array CpInfo := pool [(2, .class_ 4), (1, u "java/lang/Object"), (0, u "<init>"), (0, u "()V"), (0, .fieldref 8 9), (0, .class_ 10), (0, .nameAndType 11 12), (0, u "com/example/ledgerwarden/ledgerwarden/Protocol$Status"), (0, u "OK"), (0, u "Lcom/example/ledgerwarden/ledgerwarden/Protocol$Status;"), (0, .fieldref 8 14), (0, .nameAndType 15 12), (0, u "NO_SUCH_ENTRY"), (0, .fieldref 8 17), (0, .nameAndType 18 12), (0, u "NO_SUCH_LEDGER"), (0, .fieldref 8 20), (0, .nameAndType 21 12), (0, u "BAD_REQUEST"), (0, .fieldref 8 23), (0, .nameAndType 24 12), (0, u "ERROR"), (0, .fieldref 8 26), (0, .nameAndType 27 12), (0, u "FENCED"), (0, .fieldref 8 29), (0, .nameAndType 30 12), (0, u "UNKNOWN"), (0, .integer 2147483647), (0, .methodref 33 34), (0, .class_ 35), (0, .nameAndType 36 37), (0, u "com/example/ledgerwarden/ledgerwarden/StatusSaysAbsentPinLaw"), (0, u "pick"), (0, u "(I)Lcom/example/ledgerwarden/ledgerwarden/Protocol$Status;"), (0, .methodref 8 39), (0, .nameAndType 40 41), (0, u "saysAbsent"), (0, u "()Z"), (3, u "law"), (0, u "(I)Z")] 6

def k1m0 : Method := { name := "<init>", desc := "()V", sig := { parameters := [], returnType := none }, accessFlags := 2, code := none }
def k1c1 : Code := { maxStack := 2, maxLocals := 1, code := method_2_code, exceptionTable := #[], attributes := #[] }
def k1m1 : Method := { name := "pick", desc := "(I)Lcom/example/ledgerwarden/ledgerwarden/Protocol$Status;", sig := { parameters := [.int], returnType := some (.object "com/example/ledgerwarden/ledgerwarden/Protocol$Status") }, accessFlags := 10, code := some k1c1 }
def k1c2 : Code := { maxStack := 2, maxLocals := 4, code := code, exceptionTable := #[], attributes := #[] }
def k1m2 : Method := { name := "law", desc := "(I)Z", sig := { parameters := [.int], returnType := some .boolean }, accessFlags := 9, code := some k1c2 }
/-- com/example/ledgerwarden/ledgerwarden/StatusSaysAbsentPinLaw -/
def k1 : Class := { plain "com/example/ledgerwarden/ledgerwarden/StatusSaysAbsentPinLaw" (some 0) with
  accessFlags := 49
  interfaces := #[]
  cf := some (fileOf pool1 33 #[] #[{ accessFlags := 2, nameIndex := 5, descriptorIndex := 6, attributes := #[] }, { accessFlags := 10, nameIndex := 36, descriptorIndex := 37, attributes := #[] }, { accessFlags := 9, nameIndex := 45, descriptorIndex := 46, attributes := #[] }] 49 2 #[] #[])
  fields := #[]
  methods := #[k1m0, k1m1, k1m2]
  instanceTypes := #[]
  staticTypes := #[]
  resolved := Array.replicate 53 none
  statics := none }

def pool2 : Array CpInfo := pool [(1, .class_ 2), (0, u "java/lang/constant/Constable"), (0, .class_ 4), (0, u "java/lang/Object")] 6

/-- java/lang/constant/Constable -/
def k2 : Class := { plain "java/lang/constant/Constable" (some 0) with
  accessFlags := 1537
  interfaces := #[]
  cf := some (fileOf pool2 1 #[] #[] 1537 3 #[] #[])
  fields := #[]
  methods := #[]
  instanceTypes := #[]
  staticTypes := #[]
  resolved := Array.replicate 11 none
  statics := none }

def pool3 : Array CpInfo := pool [(1, .class_ 2), (0, u "java/lang/Comparable"), (0, .class_ 4), (0, u "java/lang/Object")] 7

/-- java/lang/Comparable -/
def k3 : Class := { plain "java/lang/Comparable" (some 0) with
  accessFlags := 1537
  interfaces := #[]
  cf := some (fileOf pool3 1 #[] #[] 1537 3 #[] #[])
  fields := #[]
  methods := #[]
  instanceTypes := #[]
  staticTypes := #[]
  resolved := Array.replicate 12 none
  statics := none }

def pool4 : Array CpInfo := pool [(1, .class_ 2), (0, u "java/io/Serializable"), (0, .class_ 4), (0, u "java/lang/Object")] 2

/-- java/io/Serializable -/
def k4 : Class := { plain "java/io/Serializable" (some 0) with
  accessFlags := 1537
  interfaces := #[]
  cf := some (fileOf pool4 1 #[] #[] 1537 3 #[] #[])
  fields := #[]
  methods := #[]
  instanceTypes := #[]
  staticTypes := #[]
  resolved := Array.replicate 7 none
  statics := none }

def pool5 : Array CpInfo := pool [(2, .class_ 4), (1, u "java/lang/Enum"), (0, u "name"), (0, u "Ljava/lang/String;"), (2, u "ordinal"), (0, u "I"), (1, .class_ 14), (1, u "java/lang/Object"), (4, u "hash"), (86, .class_ 108), (1, u "java/lang/Enum$EnumDesc"), (2, .class_ 112), (0, u "java/lang/constant/Constable"), (0, .class_ 114), (0, u "java/lang/Comparable"), (0, .class_ 116), (0, u "java/io/Serializable")] 87

/-- java/lang/Enum -/
def k5 : Class := { plain "java/lang/Enum" (some 0) with
  accessFlags := 1057
  interfaces := #[2, 3, 4]
  cf := some (fileOf pool5 2 #[.nestMembers #[106]] #[] 1057 12 #[111, 113, 115] #[{ accessFlags := 18, nameIndex := 5, descriptorIndex := 6, attributes := #[] }, { accessFlags := 18, nameIndex := 9, descriptorIndex := 10, attributes := #[] }, { accessFlags := 2, nameIndex := 19, descriptorIndex := 10, attributes := #[] }])
  fields := #[{ name := "name", type := (.object "java/lang/String"), accessFlags := 18, slot := 0, constantValue := 0 }, { name := "ordinal", type := .int, accessFlags := 18, slot := 1, constantValue := 0 }, { name := "hash", type := .int, accessFlags := 2, slot := 2, constantValue := 0 }]
  methods := #[]
  instanceTypes := #[(.object "java/lang/String"), .int, .int]
  staticTypes := #[]
  resolved := Array.replicate 204 none
  statics := none }

def pool6 : Array CpInfo := pool [(1, .class_ 2), (0, u "com/example/ledgerwarden/ledgerwarden/Protocol$Status"), (2, u "OK"), (0, u "Lcom/example/ledgerwarden/ledgerwarden/Protocol$Status;"), (0, .fieldref 1 8), (0, .nameAndType 9 6), (0, u "NO_SUCH_ENTRY"), (0, .fieldref 1 11), (0, .nameAndType 12 6), (0, u "NO_SUCH_LEDGER"), (2, u "BAD_REQUEST"), (2, u "ERROR"), (2, u "FENCED"), (2, u "UNKNOWN"), (2, u "$VALUES"), (0, u "[Lcom/example/ledgerwarden/ledgerwarden/Protocol$Status;"), (6, .class_ 37), (1, u "java/lang/Enum"), (8, u "code"), (0, u "B"), (21, u "saysAbsent"), (0, u "()Z"), (7, .class_ 79), (0, u "com/example/ledgerwarden/ledgerwarden/Protocol")] 2

def k6c0 : Code := { maxStack := 2, maxLocals := 1, code := prog_17_method_4_code, exceptionTable := #[], attributes := #[] }
def k6m0 : Method := { name := "saysAbsent", desc := "()Z", sig := { parameters := [], returnType := some .boolean }, accessFlags := 0, code := some k6c0 }
/-- com/example/ledgerwarden/ledgerwarden/Protocol$Status -/
def k6 : Class := { plain "com/example/ledgerwarden/ledgerwarden/Protocol$Status" (some 5) with
  accessFlags := 16432
  interfaces := #[]
  cf := some (fileOf pool6 1 #[.nestHost 78] #[{ accessFlags := 0, nameIndex := 69, descriptorIndex := 70, attributes := #[] }] 16432 35 #[] #[{ accessFlags := 16409, nameIndex := 5, descriptorIndex := 6, attributes := #[] }, { accessFlags := 16409, nameIndex := 9, descriptorIndex := 6, attributes := #[] }, { accessFlags := 16409, nameIndex := 12, descriptorIndex := 6, attributes := #[] }, { accessFlags := 16409, nameIndex := 15, descriptorIndex := 6, attributes := #[] }, { accessFlags := 16409, nameIndex := 18, descriptorIndex := 6, attributes := #[] }, { accessFlags := 16409, nameIndex := 21, descriptorIndex := 6, attributes := #[] }, { accessFlags := 16409, nameIndex := 24, descriptorIndex := 6, attributes := #[] }, { accessFlags := 18, nameIndex := 46, descriptorIndex := 47, attributes := #[] }, { accessFlags := 4122, nameIndex := 27, descriptorIndex := 28, attributes := #[] }])
  fields := #[{ name := "OK", type := (.object "com/example/ledgerwarden/ledgerwarden/Protocol$Status"), accessFlags := 16409, slot := 0, constantValue := 0 }, { name := "NO_SUCH_ENTRY", type := (.object "com/example/ledgerwarden/ledgerwarden/Protocol$Status"), accessFlags := 16409, slot := 1, constantValue := 0 }, { name := "NO_SUCH_LEDGER", type := (.object "com/example/ledgerwarden/ledgerwarden/Protocol$Status"), accessFlags := 16409, slot := 2, constantValue := 0 }, { name := "BAD_REQUEST", type := (.object "com/example/ledgerwarden/ledgerwarden/Protocol$Status"), accessFlags := 16409, slot := 3, constantValue := 0 }, { name := "ERROR", type := (.object "com/example/ledgerwarden/ledgerwarden/Protocol$Status"), accessFlags := 16409, slot := 4, constantValue := 0 }, { name := "FENCED", type := (.object "com/example/ledgerwarden/ledgerwarden/Protocol$Status"), accessFlags := 16409, slot := 5, constantValue := 0 }, { name := "UNKNOWN", type := (.object "com/example/ledgerwarden/ledgerwarden/Protocol$Status"), accessFlags := 16409, slot := 6, constantValue := 0 }, { name := "code", type := .byte, accessFlags := 18, slot := 3, constantValue := 0 }, { name := "$VALUES", type := (.array (.object "com/example/ledgerwarden/ledgerwarden/Protocol$Status")), accessFlags := 4122, slot := 7, constantValue := 0 }]
  methods := #[k6m0]
  instanceTypes := #[(.object "java/lang/String"), .int, .int, .byte]
  staticTypes := #[(.object "com/example/ledgerwarden/ledgerwarden/Protocol$Status"), (.object "com/example/ledgerwarden/ledgerwarden/Protocol$Status"), (.object "com/example/ledgerwarden/ledgerwarden/Protocol$Status"), (.object "com/example/ledgerwarden/ledgerwarden/Protocol$Status"), (.object "com/example/ledgerwarden/ledgerwarden/Protocol$Status"), (.object "com/example/ledgerwarden/ledgerwarden/Protocol$Status"), (.object "com/example/ledgerwarden/ledgerwarden/Protocol$Status"), (.array (.object "com/example/ledgerwarden/ledgerwarden/Protocol$Status"))]
  resolved := Array.replicate 82 none
  statics := some 0 }

def pool7 : Array CpInfo := pool [(1, u "java/lang/Cloneable"), (0, .class_ 1), (0, u "java/lang/Object"), (0, .class_ 3)] 3

/-- java/lang/Cloneable -/
def k7 : Class := { plain "java/lang/Cloneable" (some 0) with
  accessFlags := 1537
  interfaces := #[]
  cf := some (fileOf pool7 2 #[] #[] 1537 4 #[] #[])
  fields := #[]
  methods := #[]
  instanceTypes := #[]
  staticTypes := #[]
  resolved := Array.replicate 8 none
  statics := none }

/-- the primitive byte -/
def k8 : Class := { plain "byte" none with kind := .primitive 'B', accessFlags := 0x411 }
/-- [B -/
def k9 : Class := { plain "[B" (some 0) with kind := .array 8 .byte, interfaces := #[7, 4], accessFlags := 1041 }

/-- the primitive int -/
def k10 : Class := { plain "int" none with kind := .primitive 'I', accessFlags := 0x411 }
/-- [I -/
def k11 : Class := { plain "[I" (some 0) with kind := .array 10 .int, interfaces := #[7, 4], accessFlags := 1041 }

def heap : Heap := #[{ cls := 6, slots := #[.ref 1, .ref 2, .ref 3, .ref 4, .ref 5, .ref 6, .ref 7, .null], vm := .statics 6 },
  { cls := 6, slots := #[.null, .int 0, .int 0, .int 0], vm := .none },
  { cls := 6, slots := #[.null, .int 1, .int 0, .int 0], vm := .none },
  { cls := 6, slots := #[.null, .int 2, .int 0, .int 0], vm := .none },
  { cls := 6, slots := #[.null, .int 3, .int 0, .int 0], vm := .none },
  { cls := 6, slots := #[.null, .int 4, .int 0, .int 0], vm := .none },
  { cls := 6, slots := #[.null, .int 5, .int 0, .int 0], vm := .none },
  { cls := 6, slots := #[.null, .int 6, .int 0, .int 0], vm := .none }]
def classes : Array Class := #[k0, k1, k2, k3, k4, k5, k6, k7, k8, k9, k10, k11]
def interned : List (Array UInt16 × Addr) := []
def slotsUsed : Nat := 36
def theMethod : MethodId := ⟨1, 2⟩
def args0 : Array Value := #[.int 5]
def aboutOver (below : List Frame) : State where
  vm := { classes := classes, interned := interned.toArray }
  heap := heap
  slotsUsed := slotsUsed
  threads := #[{ frames := .invoking theMethod args0 :: below }]
def below0 : List Frame := [.native { method := ⟨0, 0⟩, args := #[] }]
def about1 : State := aboutOver below0
def p0 : Program := .bare "" "" ""
def e0 : Env := launch0.env 0 0 0
theorem w_frames : about1.frames = Frame.invoking theMethod args0 :: below0 := rfl
set_option maxRecDepth 65536 in
theorem w_args : argsFit about1.vm theMethod args0 = true := by decide +kernel
set_option maxRecDepth 65536 in
theorem w_heap : heapFits about1 = true := by decide +kernel
set_option maxRecDepth 65536 in
theorem w_runnable : about1.curStatus? = some .runnable := by decide +kernel
set_option maxRecDepth 65536 in
theorem w_alone : about1.alone = true := by decide +kernel
set_option maxRecDepth 65536 in
theorem w_named : about1.methodNamed? x = some theMethod := by decide +kernel
set_option maxRecDepth 65536 in
theorem w_hears : about1.hears theMethod below0 = true := by decide +kernel
set_option maxRecDepth 65536 in
theorem w_ripe : about1.ripe theMethod args0 below0 = true := by decide +kernel
theorem w_running : about1.status = .running := rfl
set_option maxRecDepth 65536 in
theorem w_room : about1.hasRoom e0.platform room_1 = true :=
  launch0.hasRoom_least _ room_1 (by decide +kernel) (by decide +kernel) (by decide +kernel) (by decide +kernel) (by decide +kernel) (by decide +kernel)
theorem allAtoms_all (ts : List Jvm.Cond) (a : Array Jvm.Value) (st : Jvm.State) : (allAtoms ts).before a st = ts.all (fun c => c.before a st) := by
  induction ts with
  | nil => rfl
  | cons c t ih =>
    show (Jvm.Cond.and c (allAtoms t)).before a st = _
    rw [Jvm.Cond.before_and, ih, List.all_cons]
def words1 : List Jvm.Cond := Jvm.Cond.code x code maxLocals ret :: tables_1
/-- a 'code' word, met by the world's own term for the bytes: nothing is compared byte by byte -/
theorem code_word {y : MethodName} {bytes : ByteArray} {mx : Nat} {rt : Option FieldType} {a : Array Value} {s : State} {m : MethodId} {meth : Method} {c : Code} (h1 : s.methodNamed? y = some m) (h2 : s.vm.method? m = some meth) (h3 : meth.code = some c) (h4 : c.code = bytes)
    (h5 : (c.maxLocals == mx && c.exceptionTable.isEmpty && decide (c.maxStack ≤ mostOperands) && decide (meth.sig.returnType = rt) && !meth.locks && decide (parseMethodDescriptor y.desc = some meth.sig)) = true) : (Jvm.Cond.code y bytes mx rt).before a s = true := by
  simp only [Bool.and_eq_true, beq_iff_eq, Bool.not_eq_true', decide_eq_true_eq] at h5
  obtain ⟨⟨⟨⟨⟨g1, g2⟩, g3⟩, g4⟩, g5⟩, g6⟩ := h5
  simp [Cond.before, Cond.holds, Cond.value, h1, h2, h3, h4, g1, g2, g3, g4, g5, g6]
def isCode : Jvm.Cond → Bool
  | .code _ _ _ _ => true
  | _ => false
theorem all_split {L : List Jvm.Cond} {P : Jvm.Cond → Bool} (h1 : L.all (fun c => isCode c || P c) = true) (h2 : ∀ c ∈ L.filter isCode, P c = true) : L.all P = true := by
  refine List.all_eq_true.mpr fun c hc => ?_
  have h := List.all_eq_true.mp h1 c hc
  rcases Bool.eq_false_or_eq_true (isCode c) with hi | hi
  · exact h2 c (List.mem_filter.mpr ⟨hc, hi⟩)
  · simpa [hi] using h
set_option maxRecDepth 65536 in
theorem w_c0 : (Jvm.Cond.code x code maxLocals ret).before args0 about1 = true := code_word (m := ⟨1, 2⟩) (meth := k1m2) (c := k1c2) (by decide +kernel) rfl rfl rfl (by decide +kernel)
set_option maxRecDepth 65536 in
theorem w_c1 : (Jvm.Cond.code ({ cls := "com/example/ledgerwarden/ledgerwarden/StatusSaysAbsentPinLaw", name := "pick", desc := "(I)Lcom/example/ledgerwarden/ledgerwarden/Protocol$Status;" } : Jvm.MethodName) method_2_code (1 : Nat) (Option.some (Jvm.ClassFile.FieldType.object "com/example/ledgerwarden/ledgerwarden/Protocol$Status"))).before args0 about1 = true := code_word (m := ⟨1, 1⟩) (meth := k1m1) (c := k1c1) (by decide +kernel) rfl rfl rfl (by decide +kernel)
set_option maxRecDepth 65536 in
theorem w_c2 : (Jvm.Cond.code ({ cls := "com/example/ledgerwarden/ledgerwarden/Protocol$Status", name := "saysAbsent", desc := "()Z" } : Jvm.MethodName) prog_17_method_4_code (1 : Nat) (Option.some Jvm.ClassFile.FieldType.boolean)).before args0 about1 = true := code_word (m := ⟨6, 0⟩) (meth := k6m0) (c := k6c0) (by decide +kernel) rfl rfl rfl (by decide +kernel)
def codes1 : List Jvm.Cond := [Jvm.Cond.code x code maxLocals ret, Jvm.Cond.code ({ cls := "com/example/ledgerwarden/ledgerwarden/StatusSaysAbsentPinLaw", name := "pick", desc := "(I)Lcom/example/ledgerwarden/ledgerwarden/Protocol$Status;" } : Jvm.MethodName) method_2_code (1 : Nat) (Option.some (Jvm.ClassFile.FieldType.object "com/example/ledgerwarden/ledgerwarden/Protocol$Status")), Jvm.Cond.code ({ cls := "com/example/ledgerwarden/ledgerwarden/Protocol$Status", name := "saysAbsent", desc := "()Z" } : Jvm.MethodName) prog_17_method_4_code (1 : Nat) (Option.some Jvm.ClassFile.FieldType.boolean)]
set_option maxRecDepth 65536 in
theorem codes_eq : words1.filter isCode = codes1 := rfl
theorem w_codes : ∀ c ∈ words1.filter isCode, c.before args0 about1 = true := by
  rw [codes_eq]
  intro c hc
  simp only [codes1, List.mem_cons, List.not_mem_nil, or_false] at hc
  rcases hc with rfl | rfl | rfl
  · exact w_c0
  · exact w_c1
  · exact w_c2
set_option maxRecDepth 65536 in
theorem w_t1 : (words1.take 24).all (fun c => isCode c || c.before args0 about1) = true := by decide +kernel
set_option maxRecDepth 65536 in
theorem w_t2 : (words1.drop 24).all (fun c => isCode c || c.before args0 about1) = true := by decide +kernel
theorem w_tables : (allAtoms (Jvm.Cond.code x code maxLocals ret :: tables_1)).before args0 about1 = true := by
  rw [allAtoms_all]
  show words1.all (fun c => c.before args0 about1) = true
  refine all_split ?_ w_codes
  rw [← List.take_append_drop 24 words1, List.all_append, w_t1, w_t2]
  rfl
set_option maxRecDepth 65536 in
theorem w_case : (Jvm.Cond.and given_1 narrow_1).before args0 about1 = true := by decide +kernel
theorem w_applies : (headSpec (Jvm.Cond.code x code maxLocals ret :: tables_1) room_1).applies x e0.platform about1 = true :=
  (Spec.applies_iff w_frames).mpr ⟨w_running, w_runnable, w_alone, w_named, w_hears, w_ripe, w_room, w_tables⟩
theorem atStart : AtStart classFile x code maxLocals ret World_1 tables_1 room_1 Calls_1 rest_1 Pre_1 launch0 p0 e0 about1 theMethod args0 below0 :=
  ⟨lists_1, trivial, launch0.admits_env _ _ _, launch0.least_env, fairChoices_fair.cas, fairChoices_fair.clock, w_frames, w_args, w_heap, w_applies, trivial, trivial, w_case⟩
end start1
theorem witness_1 : WitnessClaimed_1 := ⟨start1.p0, start1.e0, start1.about1, start1.theMethod, start1.args0, start1.below0, start1.atStart⟩
end Jvm.Pilot.@@N@@
