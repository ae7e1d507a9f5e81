import JvmDerived
import JvmDerived.Pilot.@@N@@Statement
import JvmDerived.Pilot.@@N@@Code
set_option linter.unusedVariables false
set_option linter.unusedSimpArgs false
@@BLOCK:NumsL.lean.txt@@
namespace Jvm.RoadKit
open Sem ClassFile Op Lib Jvm.Stand Jvm.Free Jvm.LawKit
section New
variable {p : Program} {l : Launch} {e : Env} {R : Room} {s : State} {m : MethodId} {args : Array Value} {below : List Frame} {meth : Method} {c : Code} {T : State} {locs : List Loc} {cells slots : Nat}
theorem retI (X : Stand p l e R s m args below meth c T locs cells slots) (hx : p.tables.exec = Jvm.exec) {pc : Nat} {Ls : Array Slot} {z : Int32} {rest : List Value} (hret : meth.sig.returnType = some .int) (hd : decode c.code pc = .ok (.ireturn, 1)) {fs : List Frame}
    (hl : ∀ (f : JFrame) (acts : List Action), f.method = m → f.locked = none → f.entered = [] → (doReturn e (T.setTop f) acts (some (.int z))).1 = T.setFrames fs) : Steps p.tables e below (T.setTop (mkF m pc Ls (.int z :: rest))) (T.setFrames fs) := by
  have hm' : T.vm.method? m = some meth := X.method'
  have hn : narrow .int (.int z) = .int z := rfl
  show Steps p.tables e below (T.setTop { method := m, pc := pc, locals := Ls, stack := _ :: rest, locked := none }) _
  jvm_step X.here [X.here.top, hx, hd, hm', hret, hn]
  first | (intro acts; rw [hl _ acts rfl rfl rfl]) | rw [hl _ _ rfl rfl rfl]
  exact Steps.refl _
end New
end Jvm.RoadKit
namespace Jvm.Pilot.@@N@@
open Jvm Jvm.ClassFile Sem Op Lib Jvm.Free Jvm.Stand Jvm.LawKit Jvm.RoadKit Bundle Jvm.Pilot.@@N@@.Jvm.D
/-! the rest of a run, from the state t on: it comes to an end of which P holds -/
def own_At (p : Program) (e : Env) (below : List Frame) (P : Outcome → State → Prop) (t : State) : Prop := ∃ s₂ o, Steps p.tables e below t s₂ ∧ s₂.status = .running ∧ Ended s₂ below o ∧ P o s₂
theorem own_body {p : Program} {e : Env} {below : List Frame} {P : Outcome → State → Prop} {t : State} (h : ∀ P' : Outcome → State → Prop, (∀ o u, P o u → P' o u) → own_At p e below P' t) : own_At p e below P t := h P fun _ _ q => q
theorem own_st {p : Program} {e : Env} {below : List Frame} {P : Outcome → State → Prop} {t t' : State} (h : ∀ target, Steps p.tables e below t' target → Steps p.tables e below t target) (k : own_At p e below P t') : own_At p e below P t := by
  obtain ⟨s₂, o, h1, h2⟩ := k
  exact ⟨s₂, o, h _ h1, h2⟩
theorem own_tr {p : Program} {e : Env} {below : List Frame} {P : Outcome → State → Prop} {t t' : State} (h : Steps p.tables e below t t') (k : own_At p e below P t') : own_At p e below P t := by
  obtain ⟨s₂, o, h1, h2⟩ := k
  exact ⟨s₂, o, h.trans h1, h2⟩
theorem own_sta {s : State} {a : Array Value} {C n d : String} {z : Int32} (h : (Jvm.Cond.eq (Jvm.Term.static C n d) (Jvm.Term.int z)).value a s none s [] = some true) (hi : (Cond.initializedFor C n d).before a s = true ∨ ((Cond.initialized C).before a s = true ∧ (Cond.laysStatic C n d).before a s = true)) : Sta s s.heap C n d (.int z) := Sta.start (eqv_i rfl h) hi
theorem own_staL {s : State} {a : Array Value} {C n d : String} {z : Int64} (h : (Jvm.Cond.eq (Jvm.Term.static C n d) (Jvm.Term.long z)).value a s none s [] = some true) (hi : (Cond.initializedFor C n d).before a s = true ∨ ((Cond.initialized C).before a s = true ∧ (Cond.laysStatic C n d).before a s = true)) : Sta s s.heap C n d (.long z) := Sta.start (eqv_l rfl h) hi
theorem own_enum {s : State} {a : Array Value} {C n d K : String} (h : (Jvm.Cond.exactly (Jvm.Term.static C n d) K).value a s none s [] = some true) (hi : (Cond.initializedFor C n d).before a s = true ∨ ((Cond.initialized C).before a s = true ∧ (Cond.laysStatic C n d).before a s = true)) : ∃ r : Addr, (Jvm.Term.static C n d).eval a s none [] s = some (.ref r) ∧ Sta s s.heap C n d (.ref r) ∧ Exa s s.heap r K := by
  obtain ⟨r, c', cell, k, e1, -⟩ := Cond.exactly_spec (Cond.before_iff.mpr h)
  exact ⟨r, e1, Sta.start e1 hi, Exa.start e1 h⟩
theorem own_ord {s : State} {a : Array Value} {t : Jvm.Term} {C n d : String} {r : Addr} {z : Int32} (e : t.eval a s none [] s = some (.ref r)) (h : (Jvm.Cond.eq (Jvm.Term.field t C n d) (Jvm.Term.int z)).value a s none s [] = some true) : s.fieldOf? r C n d = some (.int z) := by
  have q := eqv_i (F := Jvm.Term.int z) rfl h
  simpa [Term.eval, e] using q
theorem own_ne {s : State} {r r' : Addr} {C n d : String} {z z' : Int32} (h : s.fieldOf? r C n d = some (.int z)) (h' : s.fieldOf? r' C n d = some (.int z')) (q : z ≠ z') : r ≠ r' := fun e => by
  subst e
  exact q (Value.int.inj (Option.some.inj (h.symm.trans h')))

theorem own_staK {Z : State} {h h' : Heap} {C n d B : String} {w : Value} {x : Addr} (F : Sta Z h C n d w) (K : Keep h h' [x]) (E : Exa Z h x B) : Sta Z h' C n d w := by
  obtain ⟨cf, i, k, f, st, cell, h1, h2, h3, h4, h5, h6, h7⟩ := F
  obtain ⟨cb, kb, g1, -, -, g4, -⟩ := E
  have ne : st ≠ x := fun q => by
    subst q
    cases h5.symm.trans g1
    rw [h6] at g4; cases g4
  exact ⟨cf, i, k, f, st, cell, h1, h2, h3, h4, K.2.1 _ _ h5 (by simpa using ne), h6, h7⟩
theorem own_nin {a x : Addr} (h : a ≠ x) : a ∉ [x] := by simpa using h

def own_pri (z : Int32) : Int32 := if z < (0 : Int32) then (0 : Int32) else if z < (5000 : Int32) then (1 : Int32) else if z < (6000 : Int32) then (0 : Int32) else (1 : Int32)

theorem own_x0 (p : Int32) : 0 ≤ (p &&& (2147483647 : Int32)).toInt := by
  have e1 : (p &&& (2147483647 : Int32)).toInt = p.toInt % 2 ^ 31 := Jvm.Kit.i32_mask p 2147483647 (k := 31) (by decide) (by decide)
  omega
theorem own_nn {x : Int32} (h : 0 ≤ x.toInt) : ¬ x < (0 : Int32) := by
  have l0 : (0 : Int32).toInt = 0 := rfl
  rw [Int32.lt_iff_toInt_lt]; omega
theorem own_x1 {x : Int32} (h : 0 ≤ x.toInt) (c : x < (5000 : Int32)) : ¬ (own_pri x) = (0 : Int32) := by
  rw [own_pri, if_neg (own_nn h), if_pos c]; decide
theorem own_x2 {x : Int32} (h : 0 ≤ x.toInt) (c : ¬ x < (5000 : Int32)) (c2 : ¬ x < (6000 : Int32)) : ¬ (own_pri x) = (0 : Int32) := by
  rw [own_pri, if_neg (own_nn h), if_neg c, if_neg c2]; decide
theorem own_x3 {x : Int32} (h : 0 ≤ x.toInt) (c : ¬ x < (5000 : Int32)) (c2 : x < (6000 : Int32)) : ¬ (own_pri (x + (1000 : Int32))) = (0 : Int32) := by
  have l1 : (5000 : Int32).toInt = 5000 := rfl
  have l2 : (6000 : Int32).toInt = 6000 := rfl
  have l3 : (1000 : Int32).toInt = 1000 := rfl
  rw [Int32.lt_iff_toInt_lt] at c c2
  have e : (x + (1000 : Int32)).toInt = x.toInt + 1000 := by rw [Jvm.Kit.i32_add (by omega) (by omega), l3]
  exact own_x2 (by omega) (by rw [Int32.lt_iff_toInt_lt]; omega) (by rw [Int32.lt_iff_toInt_lt]; omega)
theorem own_b0 {x : Int32} (c : (4999 : Int32) < x) : ¬ x < (5000 : Int32) := by
  have l1 : (5000 : Int32).toInt = 5000 := rfl
  have l2 : (4999 : Int32).toInt = 4999 := rfl
  rw [Int32.lt_iff_toInt_lt] at c ⊢; omega
theorem own_b1 {x : Int32} (c : ¬ (4999 : Int32) < x) : x < (5000 : Int32) := by
  have l1 : (5000 : Int32).toInt = 5000 := rfl
  have l2 : (4999 : Int32).toInt = 4999 := rfl
  rw [Int32.lt_iff_toInt_lt] at c ⊢; omega

theorem own_rm1_d0 : decode jdk_30_method_1_code 0 = .ok (.aload_n 0, 1) := by decide +kernel
theorem own_rm1_d1 : decode jdk_30_method_1_code 1 = .ok (.invokespecial 1, 3) := by decide +kernel
theorem own_rm1_d4 : decode jdk_30_method_1_code 4 = .ok (.return_, 1) := by decide +kernel
theorem own_rm1_pn : plainName "java/lang/Record" = true := by first | (simp [plainName, overriddenIn]; done) | decide +kernel
theorem own_rm1_ef (m : MethodId) (x0 : Addr) : entryFrame m #[(.ref x0)] 1 = mkF m 0 #[.val (.ref x0)] [] := by first | (simp [entryFrame, mkF, argsToLocals, Value.category]; done) | rfl
def own_rm1_Q (Z : State) (a1 : Addr) (h0 : Heap) (n0 : Nat) (v : Option Value) (h : Heap) (L : List Loc) : Prop := v = none ∧ Fr n0 L ∧ h = h0
set_option maxRecDepth 65536 in
set_option maxHeartbeats 40000000 in
theorem own_rm1 (l : Launch) (Z : State) (a0 : Array Value) (hw : ∀ d ∈ tables_1, d.before a0 Z = true) (ws : List Jvm.Cond) (a1 : Addr) (h0 : Heap) (n0 : Nat) (Z0 : n0 ≤ h0.size) :
    MetFree l (⟨"java/lang/Record", "<init>", "()V"⟩ : MethodName) (head1 (Jvm.Cond.code (⟨"java/lang/Record", "<init>", "()V"⟩ : MethodName) jdk_30_method_1_code 1 none :: ws) ({ frames := 1, cells := 0, slots := 0, locals := 12 } : Room)) (fun a U => a = #[(.ref a1)] ∧ Z.Warmed39 U.vm ∧ U.heap = h0) (fun _ _ _ _ _ => True) (fun _ U o U' => ∃ v L, o = .returned v ∧ own_rm1_Q Z a1 h0 n0 v U'.heap L ∧ FrameEnd U o U' L ({ frames := 1, cells := 0, slots := 0, locals := 12 } : Room).cells ({ frames := 1, cells := 0, slots := 0, locals := 12 } : Room).slots) := by
  refine MetFree.of_bodySF (plainFor_of_name own_rm1_pn) hisR ?_
  intro p e s m args below meth c s₁ Bd hml0 hPre hK
  obtain ⟨rfl, hZ, hh⟩ := hPre
  have hx := Bd.exec
  have hby := Bd.bytes
  have hml : c.maxLocals = 1 := hml0
  have hown : s.vm.findClass "java/lang/Record" = some m.cls := findClass_of_methodNamed Bd.named
  have hnm := (name_of_methodNamed Bd.named Bd.method).1
  have X0 : Stand p l e ({ frames := 1, cells := 0, slots := 0, locals := 12 } : Room) s m #[(.ref a1)] below meth c s₁ [] 0 0 := Stand.of_body Bd
  have e0 : s₁.heap = h0 := by rw [← hh, Bd.state]; rfl
  have N0 := Fr.nil n0
  refine own_body fun P hP => ?_
  refine own_st (t' := s₁.setTop (mkF m 0 #[.val (.ref a1)] [])) (fun _ k => castTop (own_rm1_ef m a1) k) ?_
  refine own_st (t' := s₁.setTop (mkF m 1 #[.val (.ref a1)] [(.ref a1)])) (fun _ k => XS.aloadN X0.here hx rfl (hb hby own_rm1_d0) rfl rfl k) ?_
  obtain ⟨T1, X1, e1, st1⟩ := initO X0 hx hZ hown (hw _ (List.mem_of_getElem? (i := 27) rfl)) (hw _ (List.mem_of_getElem? (i := 28) rfl)) (hw _ (List.mem_of_getElem? (i := 29) rfl)) e0 (g := (mkF m 1 #[.val (.ref a1)] [(.ref a1)])) rfl (by rw [hml]; rfl) rfl (hb hby own_rm1_d1) (by decide) (W := 0) (by show 2 * 0 + _ ≤ _; exact Nat.le_of_eq rfl) (by decide)
  refine own_st (t' := T1.setTop (mkF m 4 #[.val (.ref a1)] [])) st1 ?_
  obtain ⟨fs, hr, hrun, hended, hW, hsame⟩ := X1.leave (v := none) (fun _ => rfl)
  exact ⟨_, _, X1.returnOut hx Bd.returns (hb hby own_rm1_d4) hr, hrun, hended, hP _ _ ⟨_, _, rfl, ⟨rfl, N0, e1⟩, ⟨_, rfl⟩, hW, hsame.mono (by decide) (by decide)⟩⟩

theorem own_rm2_d0 : decode prog_21_method_3_code 0 = .ok (.iload_n 0, 1) := by decide +kernel
theorem own_rm2_d1 : decode prog_21_method_3_code 1 = .ok (.ifCond .lt 21, 3) := by decide +kernel
theorem own_rm2_d4 : decode prog_21_method_3_code 4 = .ok (.iload_n 0, 1) := by decide +kernel
theorem own_rm2_d5 : decode prog_21_method_3_code 5 = .ok (.sipush 5000, 3) := by decide +kernel
theorem own_rm2_d8 : decode prog_21_method_3_code 8 = .ok (.if_icmp .lt 10, 3) := by decide +kernel
theorem own_rm2_d11 : decode prog_21_method_3_code 11 = .ok (.iload_n 0, 1) := by decide +kernel
theorem own_rm2_d12 : decode prog_21_method_3_code 12 = .ok (.sipush 6000, 3) := by decide +kernel
theorem own_rm2_d15 : decode prog_21_method_3_code 15 = .ok (.if_icmp .lt 7, 3) := by decide +kernel
theorem own_rm2_d18 : decode prog_21_method_3_code 18 = .ok (.iconst 1, 1) := by decide +kernel
theorem own_rm2_d19 : decode prog_21_method_3_code 19 = .ok (.goto 4, 3) := by decide +kernel
theorem own_rm2_d22 : decode prog_21_method_3_code 22 = .ok (.iconst 0, 1) := by decide +kernel
theorem own_rm2_d23 : decode prog_21_method_3_code 23 = .ok (.ireturn, 1) := by decide +kernel
theorem own_rm2_pn : plainName "com/example/civipay/civipay/model/Deduction" = true := by first | (simp [plainName, overriddenIn]; done) | decide +kernel
theorem own_rm2_ef (m : MethodId) (x0 : Int32) : entryFrame m #[(.int x0)] 1 = mkF m 0 #[.val (.int x0)] [] := by first | (simp [entryFrame, mkF, argsToLocals, Value.category]; done) | rfl
def own_rm2_Q (Z : State) (p1 : Int32) (h0 : Heap) (n0 : Nat) (v : Option Value) (h : Heap) (L : List Loc) : Prop := v = some (.int (own_pri p1)) ∧ Fr n0 L ∧ h = h0
set_option maxRecDepth 65536 in
set_option maxHeartbeats 40000000 in
theorem own_rm2 (l : Launch) (Z : State) (a0 : Array Value) (hw : ∀ d ∈ tables_1, d.before a0 Z = true) (ws : List Jvm.Cond) (p1 : Int32) (h0 : Heap) (n0 : Nat) (Z0 : n0 ≤ h0.size) :
    MetFree l (⟨"com/example/civipay/civipay/model/Deduction", "isPriority", "(I)Z"⟩ : MethodName) (head1 (Jvm.Cond.code (⟨"com/example/civipay/civipay/model/Deduction", "isPriority", "(I)Z"⟩ : MethodName) prog_21_method_3_code 1 (some .boolean) :: ws) ({ frames := 0, cells := 0, slots := 0, locals := 0 } : Room)) (fun a U => a = #[(.int p1)] ∧ Z.Warmed39 U.vm ∧ U.heap = h0) (fun _ _ _ _ _ => True) (fun _ U o U' => ∃ v L, o = .returned v ∧ own_rm2_Q Z p1 h0 n0 v U'.heap L ∧ FrameEnd U o U' L ({ frames := 0, cells := 0, slots := 0, locals := 0 } : Room).cells ({ frames := 0, cells := 0, slots := 0, locals := 0 } : Room).slots) := by
  refine MetFree.of_bodySF (plainFor_of_name own_rm2_pn) hisR ?_
  intro p e s m args below meth c s₁ Bd hml0 hPre hK
  obtain ⟨rfl, hZ, hh⟩ := hPre
  have hx := Bd.exec
  have hby := Bd.bytes
  have hml : c.maxLocals = 1 := hml0
  have hown : s.vm.findClass "com/example/civipay/civipay/model/Deduction" = some m.cls := findClass_of_methodNamed Bd.named
  have hnm := (name_of_methodNamed Bd.named Bd.method).1
  have X0 : Stand p l e ({ frames := 0, cells := 0, slots := 0, locals := 0 } : Room) s m #[(.int p1)] below meth c s₁ [] 0 0 := Stand.of_body Bd
  have e0 : s₁.heap = h0 := by rw [← hh, Bd.state]; rfl
  have N0 := Fr.nil n0
  refine own_body fun P hP => ?_
  refine own_st (t' := s₁.setTop (mkF m 0 #[.val (.int p1)] [])) (fun _ k => castTop (own_rm2_ef m p1) k) ?_
  refine own_st (t' := s₁.setTop (mkF m 1 #[.val (.int p1)] [(.int p1)])) (fun _ k => XS.iloadN X0.here hx rfl (hb hby own_rm2_d0) rfl k) ?_
  by_cases c1_1 : p1 < (0 : Int32)
  · refine own_st (t' := s₁.setTop (mkF m 22 #[.val (.int p1)] [])) (fun _ k => XS.ifYes X0.here hx rfl (pc0 := 1) (pc' := 22) rfl (hb hby own_rm2_d1) rfl ((if0 _ _).trans (tlt c1_1).1) (by decide) (by decide) k) ?_
    refine own_st (t' := s₁.setTop (mkF m 23 #[.val (.int p1)] [(.int (0 : Int32))])) (fun _ k => XS.iconst X0.here hx rfl (hb hby own_rm2_d22) k) ?_
    have hv2 : (0 : Int32) = own_pri p1 := by simp [own_pri, c1_1]
    obtain ⟨fs, hr, hrun, hended, hW, hsame⟩ := X0.leave (v := some (.int (0 : Int32))) (fun h => by rw [Bd.returns] at h; cases h)
    exact ⟨_, _, retN X0 hx (t := .boolean) Bd.returns (by simp) (hb hby own_rm2_d23) hr, hrun, hended, hP _ _ ⟨_, _, rfl, ⟨(congrArg (fun z => some (Value.int z)) hv2), N0, e0⟩, ⟨_, rfl⟩, hW, hsame.mono (by decide) (by decide)⟩⟩
  · refine own_st (t' := s₁.setTop (mkF m 4 #[.val (.int p1)] [])) (fun _ k => XS.ifNo X0.here hx rfl (hb hby own_rm2_d1) rfl ((if0 _ _).trans (flt c1_1).1) k) ?_
    refine own_st (t' := s₁.setTop (mkF m 5 #[.val (.int p1)] [(.int p1)])) (fun _ k => XS.iloadN X0.here hx rfl (hb hby own_rm2_d4) rfl k) ?_
    refine own_st (t' := s₁.setTop (mkF m 8 #[.val (.int p1)] [(.int (5000 : Int32)), (.int p1)])) (fun _ k => XS.sipush X0.here hx rfl (hb hby own_rm2_d5) k) ?_
    by_cases c8_3 : p1 < (5000 : Int32)
    · refine own_st (t' := s₁.setTop (mkF m 18 #[.val (.int p1)] [])) (fun _ k => XS.icmpYes X0.here hx rfl (pc0 := 8) (pc' := 18) rfl (hb hby own_rm2_d8) rfl (tlt c8_3).1 (by decide) (by decide) k) ?_
      refine own_st (t' := s₁.setTop (mkF m 19 #[.val (.int p1)] [(.int (1 : Int32))])) (fun _ k => XS.iconst X0.here hx rfl (hb hby own_rm2_d18) k) ?_
      refine own_st (t' := s₁.setTop (mkF m 23 #[.val (.int p1)] [(.int (1 : Int32))])) (fun _ k => XS.goto X0.here hx rfl (pc0 := 19) (pc' := 23) rfl (hb hby own_rm2_d19) (by decide) (by decide) k) ?_
      have hv4 : (1 : Int32) = own_pri p1 := by simp [own_pri, c1_1, c8_3]
      obtain ⟨fs, hr, hrun, hended, hW, hsame⟩ := X0.leave (v := some (.int (1 : Int32))) (fun h => by rw [Bd.returns] at h; cases h)
      exact ⟨_, _, retN X0 hx (t := .boolean) Bd.returns (by simp) (hb hby own_rm2_d23) hr, hrun, hended, hP _ _ ⟨_, _, rfl, ⟨(congrArg (fun z => some (Value.int z)) hv4), N0, e0⟩, ⟨_, rfl⟩, hW, hsame.mono (by decide) (by decide)⟩⟩
    · refine own_st (t' := s₁.setTop (mkF m 11 #[.val (.int p1)] [])) (fun _ k => XS.icmpNo X0.here hx rfl (hb hby own_rm2_d8) rfl (flt c8_3).1 k) ?_
      refine own_st (t' := s₁.setTop (mkF m 12 #[.val (.int p1)] [(.int p1)])) (fun _ k => XS.iloadN X0.here hx rfl (hb hby own_rm2_d11) rfl k) ?_
      refine own_st (t' := s₁.setTop (mkF m 15 #[.val (.int p1)] [(.int (6000 : Int32)), (.int p1)])) (fun _ k => XS.sipush X0.here hx rfl (hb hby own_rm2_d12) k) ?_
      by_cases c15_5 : p1 < (6000 : Int32)
      · refine own_st (t' := s₁.setTop (mkF m 22 #[.val (.int p1)] [])) (fun _ k => XS.icmpYes X0.here hx rfl (pc0 := 15) (pc' := 22) rfl (hb hby own_rm2_d15) rfl (tlt c15_5).1 (by decide) (by decide) k) ?_
        refine own_st (t' := s₁.setTop (mkF m 23 #[.val (.int p1)] [(.int (0 : Int32))])) (fun _ k => XS.iconst X0.here hx rfl (hb hby own_rm2_d22) k) ?_
        have hv6 : (0 : Int32) = own_pri p1 := by simp [own_pri, c1_1, c8_3, c15_5]
        obtain ⟨fs, hr, hrun, hended, hW, hsame⟩ := X0.leave (v := some (.int (0 : Int32))) (fun h => by rw [Bd.returns] at h; cases h)
        exact ⟨_, _, retN X0 hx (t := .boolean) Bd.returns (by simp) (hb hby own_rm2_d23) hr, hrun, hended, hP _ _ ⟨_, _, rfl, ⟨(congrArg (fun z => some (Value.int z)) hv6), N0, e0⟩, ⟨_, rfl⟩, hW, hsame.mono (by decide) (by decide)⟩⟩
      · refine own_st (t' := s₁.setTop (mkF m 18 #[.val (.int p1)] [])) (fun _ k => XS.icmpNo X0.here hx rfl (hb hby own_rm2_d15) rfl (flt c15_5).1 k) ?_
        refine own_st (t' := s₁.setTop (mkF m 19 #[.val (.int p1)] [(.int (1 : Int32))])) (fun _ k => XS.iconst X0.here hx rfl (hb hby own_rm2_d18) k) ?_
        refine own_st (t' := s₁.setTop (mkF m 23 #[.val (.int p1)] [(.int (1 : Int32))])) (fun _ k => XS.goto X0.here hx rfl (pc0 := 19) (pc' := 23) rfl (hb hby own_rm2_d19) (by decide) (by decide) k) ?_
        have hv7 : (1 : Int32) = own_pri p1 := by simp [own_pri, c1_1, c8_3, c15_5]
        obtain ⟨fs, hr, hrun, hended, hW, hsame⟩ := X0.leave (v := some (.int (1 : Int32))) (fun h => by rw [Bd.returns] at h; cases h)
        exact ⟨_, _, retN X0 hx (t := .boolean) Bd.returns (by simp) (hb hby own_rm2_d23) hr, hrun, hended, hP _ _ ⟨_, _, rfl, ⟨(congrArg (fun z => some (Value.int z)) hv7), N0, e0⟩, ⟨_, rfl⟩, hW, hsame.mono (by decide) (by decide)⟩⟩

theorem own_rm3_d0 : decode jdk_96_method_17_code 0 = .ok (.getstatic 9, 3) := by decide +kernel
theorem own_rm3_d3 : decode jdk_96_method_17_code 3 = .ok (.areturn, 1) := by decide +kernel
theorem own_rm3_pn : plainName "java/util/Set" = true := by first | (simp [plainName, overriddenIn]; done) | decide +kernel
theorem own_rm3_ef (m : MethodId)  : entryFrame m #[] 0 = mkF m 0 #[] [] := by first | (simp [entryFrame, mkF, argsToLocals, Value.category]; done) | rfl
def own_rm3_Q (Z : State) (w : Addr) (h0 : Heap) (n0 : Nat) (v : Option Value) (h : Heap) (L : List Loc) : Prop := v = some (.ref (w)) ∧ Fr n0 L ∧ h = h0
set_option maxRecDepth 65536 in
set_option maxHeartbeats 40000000 in
theorem own_rm3 (l : Launch) (Z : State) (a0 : Array Value) (hw : ∀ d ∈ tables_1, d.before a0 Z = true) (ws : List Jvm.Cond) (w : Addr) (h0 : Heap) (n0 : Nat) (Z0 : n0 ≤ h0.size) (S : Sta Z h0 "java/util/ImmutableCollections" "EMPTY_SET" "Ljava/util/ImmutableCollections$SetN;" (.ref w)) :
    MetFree l (⟨"java/util/Set", "of", "()Ljava/util/Set;"⟩ : MethodName) (head1 (Jvm.Cond.code (⟨"java/util/Set", "of", "()Ljava/util/Set;"⟩ : MethodName) jdk_96_method_17_code 0 (some (.object "java/util/Set")) :: ws) ({ frames := 0, cells := 0, slots := 0, locals := 0 } : Room)) (fun a U => a = #[] ∧ Z.Warmed39 U.vm ∧ U.heap = h0) (fun _ _ _ _ _ => True) (fun _ U o U' => ∃ v L, o = .returned v ∧ own_rm3_Q Z w h0 n0 v U'.heap L ∧ FrameEnd U o U' L ({ frames := 0, cells := 0, slots := 0, locals := 0 } : Room).cells ({ frames := 0, cells := 0, slots := 0, locals := 0 } : Room).slots) := by
  refine MetFree.of_bodySF (plainFor_of_name own_rm3_pn) hisR ?_
  intro p e s m args below meth c s₁ Bd hml0 hPre hK
  obtain ⟨rfl, hZ, hh⟩ := hPre
  have hx := Bd.exec
  have hby := Bd.bytes
  have hml : c.maxLocals = 0 := hml0
  have hown : s.vm.findClass "java/util/Set" = some m.cls := findClass_of_methodNamed Bd.named
  have hnm := (name_of_methodNamed Bd.named Bd.method).1
  have X0 : Stand p l e ({ frames := 0, cells := 0, slots := 0, locals := 0 } : Room) s m #[] below meth c s₁ [] 0 0 := Stand.of_body Bd
  have e0 : s₁.heap = h0 := by rw [← hh, Bd.state]; rfl
  have N0 := Fr.nil n0
  refine own_body fun P hP => ?_
  refine own_st (t' := s₁.setTop (mkF m 0 #[] [])) (fun _ k => castTop (own_rm3_ef m ) k) ?_
  obtain ⟨T1, X1, e1, st1⟩ := getS2 X0 hx hZ hown (host := "") (Or.inl (hw _ (List.mem_of_getElem? (i := 17) rfl))) Via.refl e0 S (g := (mkF m 0 #[] [])) rfl (hb hby own_rm3_d0)
  refine own_st (t' := T1.setTop (mkF m 3 #[] [(.ref w)])) st1 ?_
  have hv2 : w = w := rfl
  obtain ⟨fs, hr, hrun, hended, hW, hsame⟩ := X1.leave (v := some (.ref w)) (fun h => by rw [Bd.returns] at h; cases h)
  exact ⟨_, _, X1.areturnOut hx rfl Bd.returns rfl (hb hby own_rm3_d3) hr, hrun, hended, hP _ _ ⟨_, _, rfl, ⟨(congrArg (fun z => some (Value.ref z)) hv2), N0, e1⟩, ⟨_, rfl⟩, hW, hsame.mono (by decide) (by decide)⟩⟩

theorem own_rm4_d0 : decode jdk_96_method_29_code 0 = .ok (.aload_n 0, 1) := by decide +kernel
theorem own_rm4_d1 : decode jdk_96_method_29_code 1 = .ok (.instanceof 31, 3) := by decide +kernel
theorem own_rm4_d4 : decode jdk_96_method_29_code 4 = .ok (.ifCond .eq 8, 3) := by decide +kernel
theorem own_rm4_d7 : decode jdk_96_method_29_code 7 = .ok (.aload_n 0, 1) := by decide +kernel
theorem own_rm4_d8 : decode jdk_96_method_29_code 8 = .ok (.checkcast 33, 3) := by decide +kernel
theorem own_rm4_d11 : decode jdk_96_method_29_code 11 = .ok (.areturn, 1) := by decide +kernel
theorem own_rm4_pn : plainName "java/util/Set" = true := by first | (simp [plainName, overriddenIn]; done) | decide +kernel
theorem own_rm4_ef (m : MethodId) (x0 : Addr) : entryFrame m #[(.ref x0)] 1 = mkF m 0 #[.val (.ref x0)] [] := by first | (simp [entryFrame, mkF, argsToLocals, Value.category]; done) | rfl
def own_rm4_Q (Z : State) (a1 : Addr) (h0 : Heap) (n0 : Nat) (v : Option Value) (h : Heap) (L : List Loc) : Prop := v = some (.ref (a1)) ∧ Fr n0 L ∧ h = h0
set_option maxRecDepth 65536 in
set_option maxHeartbeats 40000000 in
theorem own_rm4 (l : Launch) (Z : State) (a0 : Array Value) (hw : ∀ d ∈ tables_1, d.before a0 Z = true) (ws : List Jvm.Cond) (a1 : Addr) (h0 : Heap) (n0 : Nat) (Z0 : n0 ≤ h0.size) (E_s : Exa Z h0 a1 "java/util/ImmutableCollections$SetN") :
    MetFree l (⟨"java/util/Set", "copyOf", "(Ljava/util/Collection;)Ljava/util/Set;"⟩ : MethodName) (head1 (Jvm.Cond.code (⟨"java/util/Set", "copyOf", "(Ljava/util/Collection;)Ljava/util/Set;"⟩ : MethodName) jdk_96_method_29_code 1 (some (.object "java/util/Set")) :: ws) ({ frames := 0, cells := 0, slots := 0, locals := 0 } : Room)) (fun a U => a = #[(.ref a1)] ∧ Z.Warmed39 U.vm ∧ U.heap = h0) (fun _ _ _ _ _ => True) (fun _ U o U' => ∃ v L, o = .returned v ∧ own_rm4_Q Z a1 h0 n0 v U'.heap L ∧ FrameEnd U o U' L ({ frames := 0, cells := 0, slots := 0, locals := 0 } : Room).cells ({ frames := 0, cells := 0, slots := 0, locals := 0 } : Room).slots) := by
  refine MetFree.of_bodySF (plainFor_of_name own_rm4_pn) hisR ?_
  intro p e s m args below meth c s₁ Bd hml0 hPre hK
  obtain ⟨rfl, hZ, hh⟩ := hPre
  have hx := Bd.exec
  have hby := Bd.bytes
  have hml : c.maxLocals = 1 := hml0
  have hown : s.vm.findClass "java/util/Set" = some m.cls := findClass_of_methodNamed Bd.named
  have hnm := (name_of_methodNamed Bd.named Bd.method).1
  have X0 : Stand p l e ({ frames := 0, cells := 0, slots := 0, locals := 0 } : Room) s m #[(.ref a1)] below meth c s₁ [] 0 0 := Stand.of_body Bd
  have e0 : s₁.heap = h0 := by rw [← hh, Bd.state]; rfl
  have N0 := Fr.nil n0
  refine own_body fun P hP => ?_
  refine own_st (t' := s₁.setTop (mkF m 0 #[.val (.ref a1)] [])) (fun _ k => castTop (own_rm4_ef m a1) k) ?_
  refine own_st (t' := s₁.setTop (mkF m 1 #[.val (.ref a1)] [(.ref a1)])) (fun _ k => XS.aloadN X0.here hx rfl (hb hby own_rm4_d0) rfl rfl k) ?_
  obtain ⟨T1, X1, e1, st1⟩ := instY X0 hx hZ hown (hw _ (List.mem_of_getElem? (i := 36) rfl)) e0 (Ins.of_exa E_s (hw _ (List.mem_of_getElem? (i := 37) rfl))) (g := (mkF m 1 #[.val (.ref a1)] [(.ref a1)])) rfl rfl (hb hby own_rm4_d1)
  refine own_st (t' := T1.setTop (mkF m 4 #[.val (.ref a1)] [(.int (1 : Int32))])) st1 ?_
  refine own_st (t' := T1.setTop (mkF m 7 #[.val (.ref a1)] [])) (fun _ k => XS.ifNo X1.here hx rfl (hb hby own_rm4_d4) rfl ((if0 _ _).trans (feq (by decide : ¬ ((1 : Int32) = (0 : Int32)))).1) k) ?_
  refine own_st (t' := T1.setTop (mkF m 8 #[.val (.ref a1)] [(.ref a1)])) (fun _ k => XS.aloadN X1.here hx rfl (hb hby own_rm4_d7) rfl rfl k) ?_
  obtain ⟨T2, X2, e2, st2⟩ := castY X1 hx hZ hown (hw _ (List.mem_of_getElem? (i := 38) rfl)) e1 (Ins.of_exa E_s (hw _ (List.mem_of_getElem? (i := 39) rfl))) (g := (mkF m 8 #[.val (.ref a1)] [(.ref a1)])) rfl rfl (hb hby own_rm4_d8)
  refine own_st (t' := T2.setTop (mkF m 11 #[.val (.ref a1)] [(.ref a1)])) st2 ?_
  have hv3 : a1 = a1 := rfl
  obtain ⟨fs, hr, hrun, hended, hW, hsame⟩ := X2.leave (v := some (.ref a1)) (fun h => by rw [Bd.returns] at h; cases h)
  exact ⟨_, _, X2.areturnOut hx rfl Bd.returns rfl (hb hby own_rm4_d11) hr, hrun, hended, hP _ _ ⟨_, _, rfl, ⟨(congrArg (fun z => some (Value.ref z)) hv3), N0, e2⟩, ⟨_, rfl⟩, hW, hsame.mono (by decide) (by decide)⟩⟩

theorem own_rm5_d0 : decode jdk_132_method_3_code 0 = .ok (.aload_n 0, 1) := by decide +kernel
theorem own_rm5_d1 : decode jdk_132_method_3_code 1 = .ok (.getfield 9, 3) := by decide +kernel
theorem own_rm5_d4 : decode jdk_132_method_3_code 4 = .ok (.ifCond .ne 7, 3) := by decide +kernel
theorem own_rm5_d7 : decode jdk_132_method_3_code 7 = .ok (.iconst 1, 1) := by decide +kernel
theorem own_rm5_d8 : decode jdk_132_method_3_code 8 = .ok (.goto 4, 3) := by decide +kernel
theorem own_rm5_d12 : decode jdk_132_method_3_code 12 = .ok (.ireturn, 1) := by decide +kernel
theorem own_rm5_pn : plainName "java/util/ImmutableCollections$SetN" = true := by first | (simp [plainName, overriddenIn]; done) | decide +kernel
theorem own_rm5_ef (m : MethodId) (x0 : Addr) : entryFrame m #[(.ref x0)] 1 = mkF m 0 #[.val (.ref x0)] [] := by first | (simp [entryFrame, mkF, argsToLocals, Value.category]; done) | rfl
def own_rm5_Q (Z : State) (a1 : Addr) (h0 : Heap) (n0 : Nat) (v : Option Value) (h : Heap) (L : List Loc) : Prop := v = some (.int ((1 : Int32))) ∧ Fr n0 L ∧ h = h0
set_option maxRecDepth 65536 in
set_option maxHeartbeats 40000000 in
theorem own_rm5 (l : Launch) (Z : State) (a0 : Array Value) (hw : ∀ d ∈ tables_1, d.before a0 Z = true) (ws : List Jvm.Cond) (a1 : Addr) (h0 : Heap) (n0 : Nat) (Z0 : n0 ≤ h0.size) (F_z : Fld Z h0 a1 "java/util/ImmutableCollections$SetN" "size" "I" (.int (0 : Int32))) :
    MetFree l (⟨"java/util/ImmutableCollections$SetN", "isEmpty", "()Z"⟩ : MethodName) (head1 (Jvm.Cond.code (⟨"java/util/ImmutableCollections$SetN", "isEmpty", "()Z"⟩ : MethodName) jdk_132_method_3_code 1 (some .boolean) :: ws) ({ frames := 0, cells := 0, slots := 0, locals := 0 } : Room)) (fun a U => a = #[(.ref a1)] ∧ Z.Warmed39 U.vm ∧ U.heap = h0) (fun _ _ _ _ _ => True) (fun _ U o U' => ∃ v L, o = .returned v ∧ own_rm5_Q Z a1 h0 n0 v U'.heap L ∧ FrameEnd U o U' L ({ frames := 0, cells := 0, slots := 0, locals := 0 } : Room).cells ({ frames := 0, cells := 0, slots := 0, locals := 0 } : Room).slots) := by
  refine MetFree.of_bodySF (plainFor_of_name own_rm5_pn) hisR ?_
  intro p e s m args below meth c s₁ Bd hml0 hPre hK
  obtain ⟨rfl, hZ, hh⟩ := hPre
  have hx := Bd.exec
  have hby := Bd.bytes
  have hml : c.maxLocals = 1 := hml0
  have hown : s.vm.findClass "java/util/ImmutableCollections$SetN" = some m.cls := findClass_of_methodNamed Bd.named
  have hnm := (name_of_methodNamed Bd.named Bd.method).1
  have X0 : Stand p l e ({ frames := 0, cells := 0, slots := 0, locals := 0 } : Room) s m #[(.ref a1)] below meth c s₁ [] 0 0 := Stand.of_body Bd
  have e0 : s₁.heap = h0 := by rw [← hh, Bd.state]; rfl
  have N0 := Fr.nil n0
  refine own_body fun P hP => ?_
  refine own_st (t' := s₁.setTop (mkF m 0 #[.val (.ref a1)] [])) (fun _ k => castTop (own_rm5_ef m a1) k) ?_
  refine own_st (t' := s₁.setTop (mkF m 1 #[.val (.ref a1)] [(.ref a1)])) (fun _ k => XS.aloadN X0.here hx rfl (hb hby own_rm5_d0) rfl rfl k) ?_
  obtain ⟨T1, X1, e1, st1⟩ := getF X0 hx hZ hown (host := "") (Or.inl (hw _ (List.mem_of_getElem? (i := 69) rfl))) Via.refl e0 F_z (g := (mkF m 1 #[.val (.ref a1)] [(.ref a1)])) rfl rfl (hb hby own_rm5_d1)
  refine own_st (t' := T1.setTop (mkF m 4 #[.val (.ref a1)] [(.int (0 : Int32))])) st1 ?_
  refine own_st (t' := T1.setTop (mkF m 7 #[.val (.ref a1)] [])) (fun _ k => XS.ifNo X1.here hx rfl (hb hby own_rm5_d4) rfl ((if0 _ _).trans (teq (rfl : (0 : Int32) = (0 : Int32))).2) k) ?_
  refine own_st (t' := T1.setTop (mkF m 8 #[.val (.ref a1)] [(.int (1 : Int32))])) (fun _ k => XS.iconst X1.here hx rfl (hb hby own_rm5_d7) k) ?_
  refine own_st (t' := T1.setTop (mkF m 12 #[.val (.ref a1)] [(.int (1 : Int32))])) (fun _ k => XS.goto X1.here hx rfl (pc0 := 8) (pc' := 12) rfl (hb hby own_rm5_d8) (by decide) (by decide) k) ?_
  have hv2 : (1 : Int32) = (1 : Int32) := rfl
  obtain ⟨fs, hr, hrun, hended, hW, hsame⟩ := X1.leave (v := some (.int (1 : Int32))) (fun h => by rw [Bd.returns] at h; cases h)
  exact ⟨_, _, retN X1 hx (t := .boolean) Bd.returns (by simp) (hb hby own_rm5_d12) hr, hrun, hended, hP _ _ ⟨_, _, rfl, ⟨(congrArg (fun z => some (Value.int z)) hv2), N0, e1⟩, ⟨_, rfl⟩, hW, hsame.mono (by decide) (by decide)⟩⟩

theorem own_rm6_d0 : decode prog_21_method_1_code 0 = .ok (.aload_n 0, 1) := by decide +kernel
theorem own_rm6_d1 : decode prog_21_method_1_code 1 = .ok (.invokespecial 1, 3) := by decide +kernel
theorem own_rm6_d4 : decode prog_21_method_1_code 4 = .ok (.iload_n 3, 1) := by decide +kernel
theorem own_rm6_d5 : decode prog_21_method_1_code 5 = .ok (.invokestatic 7, 3) := by decide +kernel
theorem own_rm6_d8 : decode prog_21_method_1_code 8 = .ok (.ifCond .ne 17, 3) := by decide +kernel
theorem own_rm6_d25 : decode prog_21_method_1_code 25 = .ok (.iload_n 3, 1) := by decide +kernel
theorem own_rm6_d26 : decode prog_21_method_1_code 26 = .ok (.sipush 6000, 3) := by decide +kernel
theorem own_rm6_d29 : decode prog_21_method_1_code 29 = .ok (.if_icmp .lt 23, 3) := by decide +kernel
theorem own_rm6_d32 : decode prog_21_method_1_code 32 = .ok (.aload 4, 2) := by decide +kernel
theorem own_rm6_d34 : decode prog_21_method_1_code 34 = .ok (.invokeinterface 22 1, 5) := by decide +kernel
theorem own_rm6_d39 : decode prog_21_method_1_code 39 = .ok (.ifCond .ne 13, 3) := by decide +kernel
theorem own_rm6_d52 : decode prog_21_method_1_code 52 = .ok (.aload 4, 2) := by decide +kernel
theorem own_rm6_d54 : decode prog_21_method_1_code 54 = .ok (.invokestatic 30, 3) := by decide +kernel
theorem own_rm6_d57 : decode prog_21_method_1_code 57 = .ok (.astore 4, 2) := by decide +kernel
theorem own_rm6_d59 : decode prog_21_method_1_code 59 = .ok (.aload_n 0, 1) := by decide +kernel
theorem own_rm6_d60 : decode prog_21_method_1_code 60 = .ok (.aload_n 1, 1) := by decide +kernel
theorem own_rm6_d61 : decode prog_21_method_1_code 61 = .ok (.putfield 34, 3) := by decide +kernel
theorem own_rm6_d64 : decode prog_21_method_1_code 64 = .ok (.aload_n 0, 1) := by decide +kernel
theorem own_rm6_d65 : decode prog_21_method_1_code 65 = .ok (.aload_n 2, 1) := by decide +kernel
theorem own_rm6_d66 : decode prog_21_method_1_code 66 = .ok (.putfield 38, 3) := by decide +kernel
theorem own_rm6_d69 : decode prog_21_method_1_code 69 = .ok (.aload_n 0, 1) := by decide +kernel
theorem own_rm6_d70 : decode prog_21_method_1_code 70 = .ok (.iload_n 3, 1) := by decide +kernel
theorem own_rm6_d71 : decode prog_21_method_1_code 71 = .ok (.putfield 41, 3) := by decide +kernel
theorem own_rm6_d74 : decode prog_21_method_1_code 74 = .ok (.aload_n 0, 1) := by decide +kernel
theorem own_rm6_d75 : decode prog_21_method_1_code 75 = .ok (.aload 4, 2) := by decide +kernel
theorem own_rm6_d77 : decode prog_21_method_1_code 77 = .ok (.putfield 45, 3) := by decide +kernel
theorem own_rm6_d80 : decode prog_21_method_1_code 80 = .ok (.aload_n 0, 1) := by decide +kernel
theorem own_rm6_d81 : decode prog_21_method_1_code 81 = .ok (.iload 5, 2) := by decide +kernel
theorem own_rm6_d83 : decode prog_21_method_1_code 83 = .ok (.putfield 49, 3) := by decide +kernel
theorem own_rm6_d86 : decode prog_21_method_1_code 86 = .ok (.return_, 1) := by decide +kernel
theorem own_rm6_pn : plainName "com/example/civipay/civipay/model/Deduction" = true := by first | (simp [plainName, overriddenIn]; done) | decide +kernel
theorem own_rm6_pd0 : parseMethodDescriptor "()V" = some ⟨[], none⟩ := by decide +kernel
theorem own_rm6_pd1 : parseMethodDescriptor "(I)Z" = some ⟨[.int], some .boolean⟩ := by decide +kernel
theorem own_rm6_pd2 : parseMethodDescriptor "(Ljava/util/Collection;)Ljava/util/Set;" = some ⟨[(.object "java/util/Collection")], some (.object "java/util/Set")⟩ := by decide +kernel
theorem own_rm6_pd3 : parseMethodDescriptor "()Z" = some ⟨[], some .boolean⟩ := by decide +kernel
theorem own_rm6_ef (m : MethodId) (x0 : Addr) (x1 : Addr) (x2 : Addr) (x3 : Int32) (x4 : Addr) (x5 : Int32) : entryFrame m #[(.ref x0), (.ref x1), (.ref x2), (.int x3), (.ref x4), (.int x5)] 6 = mkF m 0 #[.val (.ref x0), .val (.ref x1), .val (.ref x2), .val (.int x3), .val (.ref x4), .val (.int x5)] [] := by first | (simp [entryFrame, mkF, argsToLocals, Value.category]; done) | rfl
def own_rm6_Q (Z : State) (a1 : Addr) (a2 : Addr) (a3 : Addr) (p1 : Int32) (a4 : Addr) (p2 : Int32) (h0 : Heap) (n0 : Nat) (v : Option Value) (h : Heap) (L : List Loc) : Prop := v = none ∧ Fr n0 L ∧ Keep h0 h [a1] ∧ Exa Z h a1 "com/example/civipay/civipay/model/Deduction" ∧ Fld Z h a1 "com/example/civipay/civipay/model/Deduction" "priority" "I" (.int p1)
set_option maxRecDepth 65536 in
set_option maxHeartbeats 40000000 in
theorem own_rm6 (l : Launch) (Z : State) (a0 : Array Value) (hw : ∀ d ∈ tables_1, d.before a0 Z = true) (ws : List Jvm.Cond) (a1 : Addr) (a2 : Addr) (a3 : Addr) (p1 : Int32) (a4 : Addr) (p2 : Int32) (h0 : Heap) (n0 : Nat) (Z0 : n0 ≤ h0.size) (E_a1 : Exa Z h0 a1 "com/example/civipay/civipay/model/Deduction") (F_code : Fld Z h0 a1 "com/example/civipay/civipay/model/Deduction" "code" "Ljava/lang/String;" .null) (F_name : Fld Z h0 a1 "com/example/civipay/civipay/model/Deduction" "name" "Ljava/lang/String;" .null) (F_priority : Fld Z h0 a1 "com/example/civipay/civipay/model/Deduction" "priority" "I" (.int (0 : Int32))) (F_reduces : Fld Z h0 a1 "com/example/civipay/civipay/model/Deduction" "reduces" "Ljava/util/Set;" .null) (F_keepsArrears : Fld Z h0 a1 "com/example/civipay/civipay/model/Deduction" "keepsArrears" "Z" (.int (0 : Int32))) (bg_a1 : n0 ≤ a1) (E_s : Exa Z h0 a4 "java/util/ImmutableCollections$SetN") (F_z : Fld Z h0 a4 "java/util/ImmutableCollections$SetN" "size" "I" (.int (0 : Int32))) (hpr : ¬ (own_pri p1) = (0 : Int32)) (nea : a4 ≠ a1) :
    MetFree l (⟨"com/example/civipay/civipay/model/Deduction", "<init>", "(Ljava/lang/String;Ljava/lang/String;ILjava/util/Set;Z)V"⟩ : MethodName) (head1 (Jvm.Cond.code (⟨"com/example/civipay/civipay/model/Deduction", "<init>", "(Ljava/lang/String;Ljava/lang/String;ILjava/util/Set;Z)V"⟩ : MethodName) prog_21_method_1_code 6 none :: ws) ({ frames := 2, cells := 0, slots := 0, locals := 24 } : Room)) (fun a U => a = #[(.ref a1), (.ref a2), (.ref a3), (.int p1), (.ref a4), (.int p2)] ∧ Z.Warmed39 U.vm ∧ U.heap = h0) (fun _ _ _ _ _ => True) (fun _ U o U' => ∃ v L, o = .returned v ∧ own_rm6_Q Z a1 a2 a3 p1 a4 p2 h0 n0 v U'.heap L ∧ FrameEnd U o U' L ({ frames := 2, cells := 0, slots := 0, locals := 24 } : Room).cells ({ frames := 2, cells := 0, slots := 0, locals := 24 } : Room).slots) := by
  refine MetFree.of_bodySF (plainFor_of_name own_rm6_pn) hisR ?_
  intro p e s m args below meth c s₁ Bd hml0 hPre hK
  obtain ⟨rfl, hZ, hh⟩ := hPre
  have hx := Bd.exec
  have hby := Bd.bytes
  have hml : c.maxLocals = 6 := hml0
  have hown : s.vm.findClass "com/example/civipay/civipay/model/Deduction" = some m.cls := findClass_of_methodNamed Bd.named
  have hnm := (name_of_methodNamed Bd.named Bd.method).1
  have X0 : Stand p l e ({ frames := 2, cells := 0, slots := 0, locals := 24 } : Room) s m #[(.ref a1), (.ref a2), (.ref a3), (.int p1), (.ref a4), (.int p2)] below meth c s₁ [] 0 0 := Stand.of_body Bd
  have e0 : s₁.heap = h0 := by rw [← hh, Bd.state]; rfl
  have N0 := Fr.nil n0
  refine own_body fun P hP => ?_
  refine own_st (t' := s₁.setTop (mkF m 0 #[.val (.ref a1), .val (.ref a2), .val (.ref a3), .val (.int p1), .val (.ref a4), .val (.int p2)] [])) (fun _ k => castTop (own_rm6_ef m a1 a2 a3 p1 a4 p2) k) ?_
  refine own_st (t' := s₁.setTop (mkF m 1 #[.val (.ref a1), .val (.ref a2), .val (.ref a3), .val (.int p1), .val (.ref a4), .val (.int p2)] [(.ref a1)])) (fun _ k => XS.aloadN X0.here hx rfl (hb hby own_rm6_d0) rfl rfl k) ?_
  obtain ⟨_, _, ⟨T1, L1, k1, n1⟩, -, X1, ⟨Lc1, hQ1, l1, y1, z1⟩, st1⟩ := X0.specialBack hx (y := (⟨"java/lang/Record", "<init>", "()V"⟩ : MethodName)) rfl hown (mvT hZ (hw _ (List.mem_of_getElem? (i := 22) rfl))) (mvT hZ (hw _ (List.mem_of_getElem? (i := 23) rfl))) (mvT hZ (hw _ (List.mem_of_getElem? (i := 26) rfl))) (by decide) (backOf (W := 0) (own_rm1 l Z a0 hw [] a1 h0 n0 Z0) hZ (hw _ (List.mem_of_getElem? (i := 26) rfl)) (hw _ (List.mem_of_getElem? (i := 25) rfl)) (by decide) (by decide)) (g := (mkF m 1 #[.val (.ref a1), .val (.ref a2), .val (.ref a3), .val (.int p1), .val (.ref a4), .val (.int p2)] [(.ref a1)])) rfl (by rw [hml]; rfl) (Steps.refl _) (a := a1) (argsL := []) (rest := []) (lenOf own_rm6_pd0 rfl) rfl (by show 2 * 0 + _ ≤ _; exact Nat.le_of_eq rfl) (hb hby own_rm6_d1) (fun _ _ => ⟨rfl, e0, (by decide : 0 + 0 ≤ _), (by decide : 0 + 0 ≤ _)⟩)
  dsimp only [Pt.U, Pt.locs, Pt.cells, Pt.slots] at X1 l1 y1 z1 st1 hQ1
  subst l1 y1 z1
  obtain ⟨rfl, N1q, e1⟩ := hQ1
  have N1 := Fr.app N0 N1q
  refine own_tr (t' := T1.setTop (mkF m 4 #[.val (.ref a1), .val (.ref a2), .val (.ref a3), .val (.int p1), .val (.ref a4), .val (.int p2)] [])) st1 ?_
  refine own_st (t' := T1.setTop (mkF m 5 #[.val (.ref a1), .val (.ref a2), .val (.ref a3), .val (.int p1), .val (.ref a4), .val (.int p2)] [(.int p1)])) (fun _ k => XS.iloadN X1.here hx rfl (hb hby own_rm6_d4) rfl k) ?_
  obtain ⟨_, _, ⟨T2, L2, k2, n2⟩, -, X2, ⟨Lc2, hQ2, l2, y2, z2⟩, st2⟩ := Jvm.LawKit.callS X1 hx (y := (⟨"com/example/civipay/civipay/model/Deduction", "isPriority", "(I)Z"⟩ : MethodName)) hown (mvT hZ (hw _ (List.mem_of_getElem? (i := 30) rfl))) (mvT hZ (hw _ (List.mem_of_getElem? (i := 31) rfl))) (mvT hZ (hw _ (List.mem_of_getElem? (i := 3) rfl))) (mvT hZ (hw _ (List.mem_of_getElem? (i := 32) rfl))) (by decide) (backOf (W := 0) (own_rm2 l Z a0 hw [] p1  h0 n0 Z0 ) hZ (hw _ (List.mem_of_getElem? (i := 32) rfl)) (hw _ (List.mem_of_getElem? (i := 3) rfl)) (by decide) (by decide)) (g := (mkF m 5 #[.val (.ref a1), .val (.ref a2), .val (.ref a3), .val (.int p1), .val (.ref a4), .val (.int p2)] [(.int p1)])) rfl (by rw [hml]; rfl) (argsL := [(.int p1)]) (rest := []) (lenOf own_rm6_pd1 rfl) rfl (by show 2 * 0 + _ ≤ _; exact Nat.le_of_eq rfl) (hb hby own_rm6_d5) (fun _ _ => ⟨rfl, e1, (by decide : 0 + 0 + 0 ≤ _), (by decide : 0 + 0 + 0 ≤ _)⟩)
  dsimp only [Pt.U, Pt.locs, Pt.cells, Pt.slots] at X2 l2 y2 z2 st2 hQ2
  subst l2 y2 z2
  obtain ⟨rfl, N2q, e2⟩ := hQ2
  have N2 := Fr.app N1 N2q
  refine own_st (t' := T2.setTop (mkF m 8 #[.val (.ref a1), .val (.ref a2), .val (.ref a3), .val (.int p1), .val (.ref a4), .val (.int p2)] [(.int (own_pri p1))])) st2 ?_
  refine own_st (t' := T2.setTop (mkF m 25 #[.val (.ref a1), .val (.ref a2), .val (.ref a3), .val (.int p1), .val (.ref a4), .val (.int p2)] [])) (fun _ k => XS.ifYes X2.here hx rfl (pc0 := 8) (pc' := 25) rfl (hb hby own_rm6_d8) rfl ((if0 _ _).trans (feq hpr).2) (by decide) (by decide) k) ?_
  refine own_st (t' := T2.setTop (mkF m 26 #[.val (.ref a1), .val (.ref a2), .val (.ref a3), .val (.int p1), .val (.ref a4), .val (.int p2)] [(.int p1)])) (fun _ k => XS.iloadN X2.here hx rfl (hb hby own_rm6_d25) rfl k) ?_
  refine own_st (t' := T2.setTop (mkF m 29 #[.val (.ref a1), .val (.ref a2), .val (.ref a3), .val (.int p1), .val (.ref a4), .val (.int p2)] [(.int (6000 : Int32)), (.int p1)])) (fun _ k => XS.sipush X2.here hx rfl (hb hby own_rm6_d26) k) ?_
  by_cases c29_3 : p1 < (6000 : Int32)
  · refine own_st (t' := T2.setTop (mkF m 52 #[.val (.ref a1), .val (.ref a2), .val (.ref a3), .val (.int p1), .val (.ref a4), .val (.int p2)] [])) (fun _ k => XS.icmpYes X2.here hx rfl (pc0 := 29) (pc' := 52) rfl (hb hby own_rm6_d29) rfl (tlt c29_3).1 (by decide) (by decide) k) ?_
    refine own_st (t' := T2.setTop (mkF m 54 #[.val (.ref a1), .val (.ref a2), .val (.ref a3), .val (.int p1), .val (.ref a4), .val (.int p2)] [(.ref a4)])) (fun _ k => XS.aload X2.here hx rfl (hb hby own_rm6_d52) rfl rfl k) ?_
    obtain ⟨_, _, ⟨T4, L4, k4, n4⟩, -, X4, ⟨Lc4, hQ4, l4, y4, z4⟩, st4⟩ := Jvm.LawKit.callS X2 hx (y := (⟨"java/util/Set", "copyOf", "(Ljava/util/Collection;)Ljava/util/Set;"⟩ : MethodName)) hown (mvT hZ (hw _ (List.mem_of_getElem? (i := 33) rfl))) (mvT hZ (hw _ (List.mem_of_getElem? (i := 34) rfl))) (mvT hZ (hw _ (List.mem_of_getElem? (i := 15) rfl))) (mvT hZ (hw _ (List.mem_of_getElem? (i := 35) rfl))) (by decide) (backOf (W := 0) (own_rm4 l Z a0 hw [] a4 h0 n0 Z0 E_s) hZ (hw _ (List.mem_of_getElem? (i := 35) rfl)) (hw _ (List.mem_of_getElem? (i := 15) rfl)) (by decide) (by decide)) (g := (mkF m 54 #[.val (.ref a1), .val (.ref a2), .val (.ref a3), .val (.int p1), .val (.ref a4), .val (.int p2)] [(.ref a4)])) rfl (by rw [hml]; rfl) (argsL := [(.ref a4)]) (rest := []) (lenOf own_rm6_pd2 rfl) rfl (by show 2 * 0 + _ ≤ _; exact Nat.le_of_eq rfl) (hb hby own_rm6_d54) (fun _ _ => ⟨rfl, e2, (by decide : 0 + 0 + 0 + 0 ≤ _), (by decide : 0 + 0 + 0 + 0 ≤ _)⟩)
    dsimp only [Pt.U, Pt.locs, Pt.cells, Pt.slots] at X4 l4 y4 z4 st4 hQ4
    subst l4 y4 z4
    obtain ⟨rfl, N4q, e4⟩ := hQ4
    have N4 := Fr.app N2 N4q
    refine own_st (t' := T4.setTop (mkF m 57 #[.val (.ref a1), .val (.ref a2), .val (.ref a3), .val (.int p1), .val (.ref a4), .val (.int p2)] [(.ref a4)])) st4 ?_
    refine own_st (t' := T4.setTop (mkF m 59 #[.val (.ref a1), .val (.ref a2), .val (.ref a3), .val (.int p1), .val (.ref a4), .val (.int p2)] [])) (fun _ k => XS.astore X4.here hx rfl (hb hby own_rm6_d57) rfl rfl (l' := #[.val (.ref a1), .val (.ref a2), .val (.ref a3), .val (.int p1), .val (.ref a4), .val (.int p2)]) rfl k) ?_
    refine own_st (t' := T4.setTop (mkF m 60 #[.val (.ref a1), .val (.ref a2), .val (.ref a3), .val (.int p1), .val (.ref a4), .val (.int p2)] [(.ref a1)])) (fun _ k => XS.aloadN X4.here hx rfl (hb hby own_rm6_d59) rfl rfl k) ?_
    refine own_st (t' := T4.setTop (mkF m 61 #[.val (.ref a1), .val (.ref a2), .val (.ref a3), .val (.int p1), .val (.ref a4), .val (.int p2)] [(.ref a2), (.ref a1)])) (fun _ k => XS.aloadN X4.here hx rfl (hb hby own_rm6_d60) rfl rfl k) ?_
    obtain ⟨T5, h5, X5, e5, W5, st5⟩ := putF X4 hx hZ hown (host := "") (Or.inl (hw _ (List.mem_of_getElem? (i := 40) rfl))) Via.refl e4 F_code E_a1 (Or.inr ⟨(hw _ (List.mem_of_getElem? (i := 41) rfl)), rfl, hnm⟩) (hw _ (List.mem_of_getElem? (i := 2) rfl)) (ty := (.object "java/lang/String")) (by decide) rfl rfl (g := (mkF m 61 #[.val (.ref a1), .val (.ref a2), .val (.ref a3), .val (.int p1), .val (.ref a4), .val (.int p2)] [(.ref a2), (.ref a1)])) rfl rfl (hb hby own_rm6_d61)
    have Fw5 := F_code.same W5
    have f5_Exa_a1 := E_a1.wr W5
    have f5_Fld_a1_name := F_name.other W5 (Or.inr (slot_ne (Or.inr (hw _ (List.mem_of_getElem? (i := 43) rfl))) (Or.inr (hw _ (List.mem_of_getElem? (i := 41) rfl))) (by decide) (t := (.object "java/lang/String")) (t' := (.object "java/lang/String")) (by decide) (by decide)))
    have f5_Fld_a1_priority := F_priority.other W5 (Or.inr (slot_ne (Or.inr (hw _ (List.mem_of_getElem? (i := 45) rfl))) (Or.inr (hw _ (List.mem_of_getElem? (i := 41) rfl))) (by decide) (t := .int) (t' := (.object "java/lang/String")) (by decide) (by decide)))
    have f5_Fld_a1_reduces := F_reduces.other W5 (Or.inr (slot_ne (Or.inr (hw _ (List.mem_of_getElem? (i := 47) rfl))) (Or.inr (hw _ (List.mem_of_getElem? (i := 41) rfl))) (by decide) (t := (.object "java/util/Set")) (t' := (.object "java/lang/String")) (by decide) (by decide)))
    have f5_Fld_a1_keepsArrears := F_keepsArrears.other W5 (Or.inr (slot_ne (Or.inr (hw _ (List.mem_of_getElem? (i := 49) rfl))) (Or.inr (hw _ (List.mem_of_getElem? (i := 41) rfl))) (by decide) (t := .boolean) (t' := (.object "java/lang/String")) (by decide) (by decide)))
    have f5_Exa_a4 := E_s.wr W5
    have f5_Fld_a4_size := F_z.other W5 (Or.inl nea)
    have N5 := Fr.snoc X5 N4 bg_a1
    have Z5 : n0 ≤ h5.size := Nat.le_trans Z0 (Keep.of_wr W5).1
    have K5 := (Keep.refl h0 [a1]).wr W5 (Or.inl (List.mem_of_getElem? (i := 0) rfl))
    refine own_st (t' := T5.setTop (mkF m 64 #[.val (.ref a1), .val (.ref a2), .val (.ref a3), .val (.int p1), .val (.ref a4), .val (.int p2)] [])) st5 ?_
    refine own_st (t' := T5.setTop (mkF m 65 #[.val (.ref a1), .val (.ref a2), .val (.ref a3), .val (.int p1), .val (.ref a4), .val (.int p2)] [(.ref a1)])) (fun _ k => XS.aloadN X5.here hx rfl (hb hby own_rm6_d64) rfl rfl k) ?_
    refine own_st (t' := T5.setTop (mkF m 66 #[.val (.ref a1), .val (.ref a2), .val (.ref a3), .val (.int p1), .val (.ref a4), .val (.int p2)] [(.ref a3), (.ref a1)])) (fun _ k => XS.aloadN X5.here hx rfl (hb hby own_rm6_d65) rfl rfl k) ?_
    obtain ⟨T6, h6, X6, e6, W6, st6⟩ := putF X5 hx hZ hown (host := "") (Or.inl (hw _ (List.mem_of_getElem? (i := 42) rfl))) Via.refl e5 f5_Fld_a1_name f5_Exa_a1 (Or.inr ⟨(hw _ (List.mem_of_getElem? (i := 43) rfl)), rfl, hnm⟩) (hw _ (List.mem_of_getElem? (i := 2) rfl)) (ty := (.object "java/lang/String")) (by decide) rfl rfl (g := (mkF m 66 #[.val (.ref a1), .val (.ref a2), .val (.ref a3), .val (.int p1), .val (.ref a4), .val (.int p2)] [(.ref a3), (.ref a1)])) rfl rfl (hb hby own_rm6_d66)
    have Fw6 := f5_Fld_a1_name.same W6
    have f6_Exa_a1 := f5_Exa_a1.wr W6
    have f6_Fld_a1_code := Fw5.other W6 (Or.inr (slot_ne (Or.inr (hw _ (List.mem_of_getElem? (i := 41) rfl))) (Or.inr (hw _ (List.mem_of_getElem? (i := 43) rfl))) (by decide) (t := (.object "java/lang/String")) (t' := (.object "java/lang/String")) (by decide) (by decide)))
    have f6_Fld_a1_priority := f5_Fld_a1_priority.other W6 (Or.inr (slot_ne (Or.inr (hw _ (List.mem_of_getElem? (i := 45) rfl))) (Or.inr (hw _ (List.mem_of_getElem? (i := 43) rfl))) (by decide) (t := .int) (t' := (.object "java/lang/String")) (by decide) (by decide)))
    have f6_Fld_a1_reduces := f5_Fld_a1_reduces.other W6 (Or.inr (slot_ne (Or.inr (hw _ (List.mem_of_getElem? (i := 47) rfl))) (Or.inr (hw _ (List.mem_of_getElem? (i := 43) rfl))) (by decide) (t := (.object "java/util/Set")) (t' := (.object "java/lang/String")) (by decide) (by decide)))
    have f6_Fld_a1_keepsArrears := f5_Fld_a1_keepsArrears.other W6 (Or.inr (slot_ne (Or.inr (hw _ (List.mem_of_getElem? (i := 49) rfl))) (Or.inr (hw _ (List.mem_of_getElem? (i := 43) rfl))) (by decide) (t := .boolean) (t' := (.object "java/lang/String")) (by decide) (by decide)))
    have f6_Exa_a4 := f5_Exa_a4.wr W6
    have f6_Fld_a4_size := f5_Fld_a4_size.other W6 (Or.inl nea)
    have N6 := Fr.snoc X6 N5 bg_a1
    have Z6 : n0 ≤ h6.size := Nat.le_trans Z5 (Keep.of_wr W6).1
    have K6 := K5.wr W6 (Or.inl (List.mem_of_getElem? (i := 0) rfl))
    refine own_st (t' := T6.setTop (mkF m 69 #[.val (.ref a1), .val (.ref a2), .val (.ref a3), .val (.int p1), .val (.ref a4), .val (.int p2)] [])) st6 ?_
    refine own_st (t' := T6.setTop (mkF m 70 #[.val (.ref a1), .val (.ref a2), .val (.ref a3), .val (.int p1), .val (.ref a4), .val (.int p2)] [(.ref a1)])) (fun _ k => XS.aloadN X6.here hx rfl (hb hby own_rm6_d69) rfl rfl k) ?_
    refine own_st (t' := T6.setTop (mkF m 71 #[.val (.ref a1), .val (.ref a2), .val (.ref a3), .val (.int p1), .val (.ref a4), .val (.int p2)] [(.int p1), (.ref a1)])) (fun _ k => XS.iloadN X6.here hx rfl (hb hby own_rm6_d70) rfl k) ?_
    obtain ⟨T7, h7, X7, e7, W7, st7⟩ := putF X6 hx hZ hown (host := "") (Or.inl (hw _ (List.mem_of_getElem? (i := 44) rfl))) Via.refl e6 f6_Fld_a1_priority f6_Exa_a1 (Or.inr ⟨(hw _ (List.mem_of_getElem? (i := 45) rfl)), rfl, hnm⟩) (hw _ (List.mem_of_getElem? (i := 2) rfl)) (ty := .int) (by decide) rfl rfl (g := (mkF m 71 #[.val (.ref a1), .val (.ref a2), .val (.ref a3), .val (.int p1), .val (.ref a4), .val (.int p2)] [(.int p1), (.ref a1)])) rfl rfl (hb hby own_rm6_d71)
    have Fw7 := f6_Fld_a1_priority.same W7
    have f7_Exa_a1 := f6_Exa_a1.wr W7
    have f7_Fld_a1_code := f6_Fld_a1_code.other W7 (Or.inr (slot_ne (Or.inr (hw _ (List.mem_of_getElem? (i := 41) rfl))) (Or.inr (hw _ (List.mem_of_getElem? (i := 45) rfl))) (by decide) (t := (.object "java/lang/String")) (t' := .int) (by decide) (by decide)))
    have f7_Fld_a1_name := Fw6.other W7 (Or.inr (slot_ne (Or.inr (hw _ (List.mem_of_getElem? (i := 43) rfl))) (Or.inr (hw _ (List.mem_of_getElem? (i := 45) rfl))) (by decide) (t := (.object "java/lang/String")) (t' := .int) (by decide) (by decide)))
    have f7_Fld_a1_reduces := f6_Fld_a1_reduces.other W7 (Or.inr (slot_ne (Or.inr (hw _ (List.mem_of_getElem? (i := 47) rfl))) (Or.inr (hw _ (List.mem_of_getElem? (i := 45) rfl))) (by decide) (t := (.object "java/util/Set")) (t' := .int) (by decide) (by decide)))
    have f7_Fld_a1_keepsArrears := f6_Fld_a1_keepsArrears.other W7 (Or.inr (slot_ne (Or.inr (hw _ (List.mem_of_getElem? (i := 49) rfl))) (Or.inr (hw _ (List.mem_of_getElem? (i := 45) rfl))) (by decide) (t := .boolean) (t' := .int) (by decide) (by decide)))
    have f7_Exa_a4 := f6_Exa_a4.wr W7
    have f7_Fld_a4_size := f6_Fld_a4_size.other W7 (Or.inl nea)
    have N7 := Fr.snoc X7 N6 bg_a1
    have Z7 : n0 ≤ h7.size := Nat.le_trans Z6 (Keep.of_wr W7).1
    have K7 := K6.wr W7 (Or.inl (List.mem_of_getElem? (i := 0) rfl))
    refine own_st (t' := T7.setTop (mkF m 74 #[.val (.ref a1), .val (.ref a2), .val (.ref a3), .val (.int p1), .val (.ref a4), .val (.int p2)] [])) st7 ?_
    refine own_st (t' := T7.setTop (mkF m 75 #[.val (.ref a1), .val (.ref a2), .val (.ref a3), .val (.int p1), .val (.ref a4), .val (.int p2)] [(.ref a1)])) (fun _ k => XS.aloadN X7.here hx rfl (hb hby own_rm6_d74) rfl rfl k) ?_
    refine own_st (t' := T7.setTop (mkF m 77 #[.val (.ref a1), .val (.ref a2), .val (.ref a3), .val (.int p1), .val (.ref a4), .val (.int p2)] [(.ref a4), (.ref a1)])) (fun _ k => XS.aload X7.here hx rfl (hb hby own_rm6_d75) rfl rfl k) ?_
    obtain ⟨T8, h8, X8, e8, W8, st8⟩ := putF X7 hx hZ hown (host := "") (Or.inl (hw _ (List.mem_of_getElem? (i := 46) rfl))) Via.refl e7 f7_Fld_a1_reduces f7_Exa_a1 (Or.inr ⟨(hw _ (List.mem_of_getElem? (i := 47) rfl)), rfl, hnm⟩) (hw _ (List.mem_of_getElem? (i := 2) rfl)) (ty := (.object "java/util/Set")) (by decide) rfl rfl (g := (mkF m 77 #[.val (.ref a1), .val (.ref a2), .val (.ref a3), .val (.int p1), .val (.ref a4), .val (.int p2)] [(.ref a4), (.ref a1)])) rfl rfl (hb hby own_rm6_d77)
    have Fw8 := f7_Fld_a1_reduces.same W8
    have f8_Exa_a1 := f7_Exa_a1.wr W8
    have f8_Fld_a1_code := f7_Fld_a1_code.other W8 (Or.inr (slot_ne (Or.inr (hw _ (List.mem_of_getElem? (i := 41) rfl))) (Or.inr (hw _ (List.mem_of_getElem? (i := 47) rfl))) (by decide) (t := (.object "java/lang/String")) (t' := (.object "java/util/Set")) (by decide) (by decide)))
    have f8_Fld_a1_name := f7_Fld_a1_name.other W8 (Or.inr (slot_ne (Or.inr (hw _ (List.mem_of_getElem? (i := 43) rfl))) (Or.inr (hw _ (List.mem_of_getElem? (i := 47) rfl))) (by decide) (t := (.object "java/lang/String")) (t' := (.object "java/util/Set")) (by decide) (by decide)))
    have f8_Fld_a1_priority := Fw7.other W8 (Or.inr (slot_ne (Or.inr (hw _ (List.mem_of_getElem? (i := 45) rfl))) (Or.inr (hw _ (List.mem_of_getElem? (i := 47) rfl))) (by decide) (t := .int) (t' := (.object "java/util/Set")) (by decide) (by decide)))
    have f8_Fld_a1_keepsArrears := f7_Fld_a1_keepsArrears.other W8 (Or.inr (slot_ne (Or.inr (hw _ (List.mem_of_getElem? (i := 49) rfl))) (Or.inr (hw _ (List.mem_of_getElem? (i := 47) rfl))) (by decide) (t := .boolean) (t' := (.object "java/util/Set")) (by decide) (by decide)))
    have f8_Exa_a4 := f7_Exa_a4.wr W8
    have f8_Fld_a4_size := f7_Fld_a4_size.other W8 (Or.inl nea)
    have N8 := Fr.snoc X8 N7 bg_a1
    have Z8 : n0 ≤ h8.size := Nat.le_trans Z7 (Keep.of_wr W8).1
    have K8 := K7.wr W8 (Or.inl (List.mem_of_getElem? (i := 0) rfl))
    refine own_st (t' := T8.setTop (mkF m 80 #[.val (.ref a1), .val (.ref a2), .val (.ref a3), .val (.int p1), .val (.ref a4), .val (.int p2)] [])) st8 ?_
    refine own_st (t' := T8.setTop (mkF m 81 #[.val (.ref a1), .val (.ref a2), .val (.ref a3), .val (.int p1), .val (.ref a4), .val (.int p2)] [(.ref a1)])) (fun _ k => XS.aloadN X8.here hx rfl (hb hby own_rm6_d80) rfl rfl k) ?_
    refine own_st (t' := T8.setTop (mkF m 83 #[.val (.ref a1), .val (.ref a2), .val (.ref a3), .val (.int p1), .val (.ref a4), .val (.int p2)] [(.int p2), (.ref a1)])) (fun _ k => XS.iload X8.here hx rfl (hb hby own_rm6_d81) rfl k) ?_
    obtain ⟨T9, h9, X9, e9, W9, st9⟩ := putFN X8 hx hZ hown (hw _ (List.mem_of_getElem? (i := 48) rfl)) Via.refl e8 f8_Fld_a1_keepsArrears f8_Exa_a1 (Or.inr ⟨(hw _ (List.mem_of_getElem? (i := 49) rfl)), rfl, hnm⟩) (hw _ (List.mem_of_getElem? (i := 2) rfl)) (ty := .boolean) (v' := (.int (nar .boolean p2))) (by decide) rfl (fits_nar_bool _) (g := (mkF m 83 #[.val (.ref a1), .val (.ref a2), .val (.ref a3), .val (.int p1), .val (.ref a4), .val (.int p2)] [(.int p2), (.ref a1)])) rfl rfl (hb hby own_rm6_d83)
    have Fw9 := f8_Fld_a1_keepsArrears.same W9
    have f9_Exa_a1 := f8_Exa_a1.wr W9
    have f9_Fld_a1_code := f8_Fld_a1_code.other W9 (Or.inr (slot_ne (Or.inr (hw _ (List.mem_of_getElem? (i := 41) rfl))) (Or.inr (hw _ (List.mem_of_getElem? (i := 49) rfl))) (by decide) (t := (.object "java/lang/String")) (t' := .boolean) (by decide) (by decide)))
    have f9_Fld_a1_name := f8_Fld_a1_name.other W9 (Or.inr (slot_ne (Or.inr (hw _ (List.mem_of_getElem? (i := 43) rfl))) (Or.inr (hw _ (List.mem_of_getElem? (i := 49) rfl))) (by decide) (t := (.object "java/lang/String")) (t' := .boolean) (by decide) (by decide)))
    have f9_Fld_a1_priority := f8_Fld_a1_priority.other W9 (Or.inr (slot_ne (Or.inr (hw _ (List.mem_of_getElem? (i := 45) rfl))) (Or.inr (hw _ (List.mem_of_getElem? (i := 49) rfl))) (by decide) (t := .int) (t' := .boolean) (by decide) (by decide)))
    have f9_Fld_a1_reduces := Fw8.other W9 (Or.inr (slot_ne (Or.inr (hw _ (List.mem_of_getElem? (i := 47) rfl))) (Or.inr (hw _ (List.mem_of_getElem? (i := 49) rfl))) (by decide) (t := (.object "java/util/Set")) (t' := .boolean) (by decide) (by decide)))
    have f9_Exa_a4 := f8_Exa_a4.wr W9
    have f9_Fld_a4_size := f8_Fld_a4_size.other W9 (Or.inl nea)
    have N9 := Fr.snoc X9 N8 bg_a1
    have Z9 : n0 ≤ h9.size := Nat.le_trans Z8 (Keep.of_wr W9).1
    have K9 := K8.wr W9 (Or.inl (List.mem_of_getElem? (i := 0) rfl))
    refine own_st (t' := T9.setTop (mkF m 86 #[.val (.ref a1), .val (.ref a2), .val (.ref a3), .val (.int p1), .val (.ref a4), .val (.int p2)] [])) st9 ?_
    obtain ⟨fs, hr, hrun, hended, hW, hsame⟩ := X9.leave (v := none) (fun _ => rfl)
    exact ⟨_, _, X9.returnOut hx Bd.returns (hb hby own_rm6_d86) hr, hrun, hended, hP _ _ ⟨_, _, rfl, ⟨rfl, N9, (by show Keep h0 T9.heap [a1] ∧ Exa Z T9.heap a1 "com/example/civipay/civipay/model/Deduction" ∧ Fld Z T9.heap a1 "com/example/civipay/civipay/model/Deduction" "priority" "I" (.int p1); rw [e9]; exact ⟨K9, f9_Exa_a1, f9_Fld_a1_priority⟩)⟩, ⟨_, rfl⟩, hW, hsame.mono (by decide) (by decide)⟩⟩
  · refine own_st (t' := T2.setTop (mkF m 32 #[.val (.ref a1), .val (.ref a2), .val (.ref a3), .val (.int p1), .val (.ref a4), .val (.int p2)] [])) (fun _ k => XS.icmpNo X2.here hx rfl (hb hby own_rm6_d29) rfl (flt c29_3).1 k) ?_
    refine own_st (t' := T2.setTop (mkF m 34 #[.val (.ref a1), .val (.ref a2), .val (.ref a3), .val (.int p1), .val (.ref a4), .val (.int p2)] [(.ref a4)])) (fun _ k => XS.aload X2.here hx rfl (hb hby own_rm6_d32) rfl rfl k) ?_
    obtain ⟨cq10, kq10, q10a, q10b, q10c⟩ := isOf hZ e2 E_s
    obtain ⟨_, _, ⟨T10, L10, k10, n10⟩, -, X10, ⟨Lc10, hQ10, l10, y10, z10⟩, st10⟩ := X2.interfaceBack hx (xi := (⟨"java/util/Set", "isEmpty", "()Z"⟩ : MethodName)) (y := (⟨"java/util/ImmutableCollections$SetN", "isEmpty", "()Z"⟩ : MethodName)) hown (mvT hZ (hw _ (List.mem_of_getElem? (i := 60) rfl))) (mvT hZ (hw _ (List.mem_of_getElem? (i := 61) rfl))) (mvT hZ (hw _ (List.mem_of_getElem? (i := 62) rfl))) (mvT hZ (hw _ (List.mem_of_getElem? (i := 63) rfl))) (mvT hZ (hw _ (List.mem_of_getElem? (i := 64) rfl))) (mvT hZ (hw _ (List.mem_of_getElem? (i := 65) rfl))) (mvT hZ (hw _ (List.mem_of_getElem? (i := 66) rfl))) (mvT hZ (hw _ (List.mem_of_getElem? (i := 39) rfl))) (by decide) (backOf (W := 0) (own_rm5 l Z a0 hw [] a4 h0 n0 Z0 F_z) hZ (hw _ (List.mem_of_getElem? (i := 68) rfl)) (hw _ (List.mem_of_getElem? (i := 67) rfl)) (by decide) (by decide)) q10a q10b q10c (g := (mkF m 34 #[.val (.ref a1), .val (.ref a2), .val (.ref a3), .val (.int p1), .val (.ref a4), .val (.int p2)] [(.ref a4)])) rfl (by rw [hml]; rfl) (Steps.refl _) (argsL := []) (rest := []) (lenOf own_rm6_pd3 rfl) rfl (by show 2 * 0 + _ ≤ _; exact Nat.le_of_eq rfl) (hb hby own_rm6_d34) (fun _ _ => ⟨rfl, e2, (by decide : 0 + 0 + 0 + 0 ≤ _), (by decide : 0 + 0 + 0 + 0 ≤ _)⟩)
    dsimp only [Pt.U, Pt.locs, Pt.cells, Pt.slots] at X10 l10 y10 z10 st10 hQ10
    subst l10 y10 z10
    obtain ⟨rfl, N10q, e10⟩ := hQ10
    have N10 := Fr.app N2 N10q
    refine own_tr (t' := T10.setTop (mkF m 39 #[.val (.ref a1), .val (.ref a2), .val (.ref a3), .val (.int p1), .val (.ref a4), .val (.int p2)] [(.int (1 : Int32))])) st10 ?_
    refine own_st (t' := T10.setTop (mkF m 52 #[.val (.ref a1), .val (.ref a2), .val (.ref a3), .val (.int p1), .val (.ref a4), .val (.int p2)] [])) (fun _ k => XS.ifYes X10.here hx rfl (pc0 := 39) (pc' := 52) rfl (hb hby own_rm6_d39) rfl ((if0 _ _).trans (feq (by decide : ¬ ((1 : Int32) = (0 : Int32)))).2) (by decide) (by decide) k) ?_
    refine own_st (t' := T10.setTop (mkF m 54 #[.val (.ref a1), .val (.ref a2), .val (.ref a3), .val (.int p1), .val (.ref a4), .val (.int p2)] [(.ref a4)])) (fun _ k => XS.aload X10.here hx rfl (hb hby own_rm6_d52) rfl rfl k) ?_
    obtain ⟨_, _, ⟨T11, L11, k11, n11⟩, -, X11, ⟨Lc11, hQ11, l11, y11, z11⟩, st11⟩ := Jvm.LawKit.callS X10 hx (y := (⟨"java/util/Set", "copyOf", "(Ljava/util/Collection;)Ljava/util/Set;"⟩ : MethodName)) hown (mvT hZ (hw _ (List.mem_of_getElem? (i := 33) rfl))) (mvT hZ (hw _ (List.mem_of_getElem? (i := 34) rfl))) (mvT hZ (hw _ (List.mem_of_getElem? (i := 15) rfl))) (mvT hZ (hw _ (List.mem_of_getElem? (i := 35) rfl))) (by decide) (backOf (W := 0) (own_rm4 l Z a0 hw [] a4 h0 n0 Z0 E_s) hZ (hw _ (List.mem_of_getElem? (i := 35) rfl)) (hw _ (List.mem_of_getElem? (i := 15) rfl)) (by decide) (by decide)) (g := (mkF m 54 #[.val (.ref a1), .val (.ref a2), .val (.ref a3), .val (.int p1), .val (.ref a4), .val (.int p2)] [(.ref a4)])) rfl (by rw [hml]; rfl) (argsL := [(.ref a4)]) (rest := []) (lenOf own_rm6_pd2 rfl) rfl (by show 2 * 0 + _ ≤ _; exact Nat.le_of_eq rfl) (hb hby own_rm6_d54) (fun _ _ => ⟨rfl, e10, (by decide : 0 + 0 + 0 + 0 + 0 ≤ _), (by decide : 0 + 0 + 0 + 0 + 0 ≤ _)⟩)
    dsimp only [Pt.U, Pt.locs, Pt.cells, Pt.slots] at X11 l11 y11 z11 st11 hQ11
    subst l11 y11 z11
    obtain ⟨rfl, N11q, e11⟩ := hQ11
    have N11 := Fr.app N10 N11q
    refine own_st (t' := T11.setTop (mkF m 57 #[.val (.ref a1), .val (.ref a2), .val (.ref a3), .val (.int p1), .val (.ref a4), .val (.int p2)] [(.ref a4)])) st11 ?_
    refine own_st (t' := T11.setTop (mkF m 59 #[.val (.ref a1), .val (.ref a2), .val (.ref a3), .val (.int p1), .val (.ref a4), .val (.int p2)] [])) (fun _ k => XS.astore X11.here hx rfl (hb hby own_rm6_d57) rfl rfl (l' := #[.val (.ref a1), .val (.ref a2), .val (.ref a3), .val (.int p1), .val (.ref a4), .val (.int p2)]) rfl k) ?_
    refine own_st (t' := T11.setTop (mkF m 60 #[.val (.ref a1), .val (.ref a2), .val (.ref a3), .val (.int p1), .val (.ref a4), .val (.int p2)] [(.ref a1)])) (fun _ k => XS.aloadN X11.here hx rfl (hb hby own_rm6_d59) rfl rfl k) ?_
    refine own_st (t' := T11.setTop (mkF m 61 #[.val (.ref a1), .val (.ref a2), .val (.ref a3), .val (.int p1), .val (.ref a4), .val (.int p2)] [(.ref a2), (.ref a1)])) (fun _ k => XS.aloadN X11.here hx rfl (hb hby own_rm6_d60) rfl rfl k) ?_
    obtain ⟨T12, h12, X12, e12, W12, st12⟩ := putF X11 hx hZ hown (host := "") (Or.inl (hw _ (List.mem_of_getElem? (i := 40) rfl))) Via.refl e11 F_code E_a1 (Or.inr ⟨(hw _ (List.mem_of_getElem? (i := 41) rfl)), rfl, hnm⟩) (hw _ (List.mem_of_getElem? (i := 2) rfl)) (ty := (.object "java/lang/String")) (by decide) rfl rfl (g := (mkF m 61 #[.val (.ref a1), .val (.ref a2), .val (.ref a3), .val (.int p1), .val (.ref a4), .val (.int p2)] [(.ref a2), (.ref a1)])) rfl rfl (hb hby own_rm6_d61)
    have Fw12 := F_code.same W12
    have f12_Exa_a1 := E_a1.wr W12
    have f12_Fld_a1_name := F_name.other W12 (Or.inr (slot_ne (Or.inr (hw _ (List.mem_of_getElem? (i := 43) rfl))) (Or.inr (hw _ (List.mem_of_getElem? (i := 41) rfl))) (by decide) (t := (.object "java/lang/String")) (t' := (.object "java/lang/String")) (by decide) (by decide)))
    have f12_Fld_a1_priority := F_priority.other W12 (Or.inr (slot_ne (Or.inr (hw _ (List.mem_of_getElem? (i := 45) rfl))) (Or.inr (hw _ (List.mem_of_getElem? (i := 41) rfl))) (by decide) (t := .int) (t' := (.object "java/lang/String")) (by decide) (by decide)))
    have f12_Fld_a1_reduces := F_reduces.other W12 (Or.inr (slot_ne (Or.inr (hw _ (List.mem_of_getElem? (i := 47) rfl))) (Or.inr (hw _ (List.mem_of_getElem? (i := 41) rfl))) (by decide) (t := (.object "java/util/Set")) (t' := (.object "java/lang/String")) (by decide) (by decide)))
    have f12_Fld_a1_keepsArrears := F_keepsArrears.other W12 (Or.inr (slot_ne (Or.inr (hw _ (List.mem_of_getElem? (i := 49) rfl))) (Or.inr (hw _ (List.mem_of_getElem? (i := 41) rfl))) (by decide) (t := .boolean) (t' := (.object "java/lang/String")) (by decide) (by decide)))
    have f12_Exa_a4 := E_s.wr W12
    have f12_Fld_a4_size := F_z.other W12 (Or.inl nea)
    have N12 := Fr.snoc X12 N11 bg_a1
    have Z12 : n0 ≤ h12.size := Nat.le_trans Z0 (Keep.of_wr W12).1
    have K12 := (Keep.refl h0 [a1]).wr W12 (Or.inl (List.mem_of_getElem? (i := 0) rfl))
    refine own_st (t' := T12.setTop (mkF m 64 #[.val (.ref a1), .val (.ref a2), .val (.ref a3), .val (.int p1), .val (.ref a4), .val (.int p2)] [])) st12 ?_
    refine own_st (t' := T12.setTop (mkF m 65 #[.val (.ref a1), .val (.ref a2), .val (.ref a3), .val (.int p1), .val (.ref a4), .val (.int p2)] [(.ref a1)])) (fun _ k => XS.aloadN X12.here hx rfl (hb hby own_rm6_d64) rfl rfl k) ?_
    refine own_st (t' := T12.setTop (mkF m 66 #[.val (.ref a1), .val (.ref a2), .val (.ref a3), .val (.int p1), .val (.ref a4), .val (.int p2)] [(.ref a3), (.ref a1)])) (fun _ k => XS.aloadN X12.here hx rfl (hb hby own_rm6_d65) rfl rfl k) ?_
    obtain ⟨T13, h13, X13, e13, W13, st13⟩ := putF X12 hx hZ hown (host := "") (Or.inl (hw _ (List.mem_of_getElem? (i := 42) rfl))) Via.refl e12 f12_Fld_a1_name f12_Exa_a1 (Or.inr ⟨(hw _ (List.mem_of_getElem? (i := 43) rfl)), rfl, hnm⟩) (hw _ (List.mem_of_getElem? (i := 2) rfl)) (ty := (.object "java/lang/String")) (by decide) rfl rfl (g := (mkF m 66 #[.val (.ref a1), .val (.ref a2), .val (.ref a3), .val (.int p1), .val (.ref a4), .val (.int p2)] [(.ref a3), (.ref a1)])) rfl rfl (hb hby own_rm6_d66)
    have Fw13 := f12_Fld_a1_name.same W13
    have f13_Exa_a1 := f12_Exa_a1.wr W13
    have f13_Fld_a1_code := Fw12.other W13 (Or.inr (slot_ne (Or.inr (hw _ (List.mem_of_getElem? (i := 41) rfl))) (Or.inr (hw _ (List.mem_of_getElem? (i := 43) rfl))) (by decide) (t := (.object "java/lang/String")) (t' := (.object "java/lang/String")) (by decide) (by decide)))
    have f13_Fld_a1_priority := f12_Fld_a1_priority.other W13 (Or.inr (slot_ne (Or.inr (hw _ (List.mem_of_getElem? (i := 45) rfl))) (Or.inr (hw _ (List.mem_of_getElem? (i := 43) rfl))) (by decide) (t := .int) (t' := (.object "java/lang/String")) (by decide) (by decide)))
    have f13_Fld_a1_reduces := f12_Fld_a1_reduces.other W13 (Or.inr (slot_ne (Or.inr (hw _ (List.mem_of_getElem? (i := 47) rfl))) (Or.inr (hw _ (List.mem_of_getElem? (i := 43) rfl))) (by decide) (t := (.object "java/util/Set")) (t' := (.object "java/lang/String")) (by decide) (by decide)))
    have f13_Fld_a1_keepsArrears := f12_Fld_a1_keepsArrears.other W13 (Or.inr (slot_ne (Or.inr (hw _ (List.mem_of_getElem? (i := 49) rfl))) (Or.inr (hw _ (List.mem_of_getElem? (i := 43) rfl))) (by decide) (t := .boolean) (t' := (.object "java/lang/String")) (by decide) (by decide)))
    have f13_Exa_a4 := f12_Exa_a4.wr W13
    have f13_Fld_a4_size := f12_Fld_a4_size.other W13 (Or.inl nea)
    have N13 := Fr.snoc X13 N12 bg_a1
    have Z13 : n0 ≤ h13.size := Nat.le_trans Z12 (Keep.of_wr W13).1
    have K13 := K12.wr W13 (Or.inl (List.mem_of_getElem? (i := 0) rfl))
    refine own_st (t' := T13.setTop (mkF m 69 #[.val (.ref a1), .val (.ref a2), .val (.ref a3), .val (.int p1), .val (.ref a4), .val (.int p2)] [])) st13 ?_
    refine own_st (t' := T13.setTop (mkF m 70 #[.val (.ref a1), .val (.ref a2), .val (.ref a3), .val (.int p1), .val (.ref a4), .val (.int p2)] [(.ref a1)])) (fun _ k => XS.aloadN X13.here hx rfl (hb hby own_rm6_d69) rfl rfl k) ?_
    refine own_st (t' := T13.setTop (mkF m 71 #[.val (.ref a1), .val (.ref a2), .val (.ref a3), .val (.int p1), .val (.ref a4), .val (.int p2)] [(.int p1), (.ref a1)])) (fun _ k => XS.iloadN X13.here hx rfl (hb hby own_rm6_d70) rfl k) ?_
    obtain ⟨T14, h14, X14, e14, W14, st14⟩ := putF X13 hx hZ hown (host := "") (Or.inl (hw _ (List.mem_of_getElem? (i := 44) rfl))) Via.refl e13 f13_Fld_a1_priority f13_Exa_a1 (Or.inr ⟨(hw _ (List.mem_of_getElem? (i := 45) rfl)), rfl, hnm⟩) (hw _ (List.mem_of_getElem? (i := 2) rfl)) (ty := .int) (by decide) rfl rfl (g := (mkF m 71 #[.val (.ref a1), .val (.ref a2), .val (.ref a3), .val (.int p1), .val (.ref a4), .val (.int p2)] [(.int p1), (.ref a1)])) rfl rfl (hb hby own_rm6_d71)
    have Fw14 := f13_Fld_a1_priority.same W14
    have f14_Exa_a1 := f13_Exa_a1.wr W14
    have f14_Fld_a1_code := f13_Fld_a1_code.other W14 (Or.inr (slot_ne (Or.inr (hw _ (List.mem_of_getElem? (i := 41) rfl))) (Or.inr (hw _ (List.mem_of_getElem? (i := 45) rfl))) (by decide) (t := (.object "java/lang/String")) (t' := .int) (by decide) (by decide)))
    have f14_Fld_a1_name := Fw13.other W14 (Or.inr (slot_ne (Or.inr (hw _ (List.mem_of_getElem? (i := 43) rfl))) (Or.inr (hw _ (List.mem_of_getElem? (i := 45) rfl))) (by decide) (t := (.object "java/lang/String")) (t' := .int) (by decide) (by decide)))
    have f14_Fld_a1_reduces := f13_Fld_a1_reduces.other W14 (Or.inr (slot_ne (Or.inr (hw _ (List.mem_of_getElem? (i := 47) rfl))) (Or.inr (hw _ (List.mem_of_getElem? (i := 45) rfl))) (by decide) (t := (.object "java/util/Set")) (t' := .int) (by decide) (by decide)))
    have f14_Fld_a1_keepsArrears := f13_Fld_a1_keepsArrears.other W14 (Or.inr (slot_ne (Or.inr (hw _ (List.mem_of_getElem? (i := 49) rfl))) (Or.inr (hw _ (List.mem_of_getElem? (i := 45) rfl))) (by decide) (t := .boolean) (t' := .int) (by decide) (by decide)))
    have f14_Exa_a4 := f13_Exa_a4.wr W14
    have f14_Fld_a4_size := f13_Fld_a4_size.other W14 (Or.inl nea)
    have N14 := Fr.snoc X14 N13 bg_a1
    have Z14 : n0 ≤ h14.size := Nat.le_trans Z13 (Keep.of_wr W14).1
    have K14 := K13.wr W14 (Or.inl (List.mem_of_getElem? (i := 0) rfl))
    refine own_st (t' := T14.setTop (mkF m 74 #[.val (.ref a1), .val (.ref a2), .val (.ref a3), .val (.int p1), .val (.ref a4), .val (.int p2)] [])) st14 ?_
    refine own_st (t' := T14.setTop (mkF m 75 #[.val (.ref a1), .val (.ref a2), .val (.ref a3), .val (.int p1), .val (.ref a4), .val (.int p2)] [(.ref a1)])) (fun _ k => XS.aloadN X14.here hx rfl (hb hby own_rm6_d74) rfl rfl k) ?_
    refine own_st (t' := T14.setTop (mkF m 77 #[.val (.ref a1), .val (.ref a2), .val (.ref a3), .val (.int p1), .val (.ref a4), .val (.int p2)] [(.ref a4), (.ref a1)])) (fun _ k => XS.aload X14.here hx rfl (hb hby own_rm6_d75) rfl rfl k) ?_
    obtain ⟨T15, h15, X15, e15, W15, st15⟩ := putF X14 hx hZ hown (host := "") (Or.inl (hw _ (List.mem_of_getElem? (i := 46) rfl))) Via.refl e14 f14_Fld_a1_reduces f14_Exa_a1 (Or.inr ⟨(hw _ (List.mem_of_getElem? (i := 47) rfl)), rfl, hnm⟩) (hw _ (List.mem_of_getElem? (i := 2) rfl)) (ty := (.object "java/util/Set")) (by decide) rfl rfl (g := (mkF m 77 #[.val (.ref a1), .val (.ref a2), .val (.ref a3), .val (.int p1), .val (.ref a4), .val (.int p2)] [(.ref a4), (.ref a1)])) rfl rfl (hb hby own_rm6_d77)
    have Fw15 := f14_Fld_a1_reduces.same W15
    have f15_Exa_a1 := f14_Exa_a1.wr W15
    have f15_Fld_a1_code := f14_Fld_a1_code.other W15 (Or.inr (slot_ne (Or.inr (hw _ (List.mem_of_getElem? (i := 41) rfl))) (Or.inr (hw _ (List.mem_of_getElem? (i := 47) rfl))) (by decide) (t := (.object "java/lang/String")) (t' := (.object "java/util/Set")) (by decide) (by decide)))
    have f15_Fld_a1_name := f14_Fld_a1_name.other W15 (Or.inr (slot_ne (Or.inr (hw _ (List.mem_of_getElem? (i := 43) rfl))) (Or.inr (hw _ (List.mem_of_getElem? (i := 47) rfl))) (by decide) (t := (.object "java/lang/String")) (t' := (.object "java/util/Set")) (by decide) (by decide)))
    have f15_Fld_a1_priority := Fw14.other W15 (Or.inr (slot_ne (Or.inr (hw _ (List.mem_of_getElem? (i := 45) rfl))) (Or.inr (hw _ (List.mem_of_getElem? (i := 47) rfl))) (by decide) (t := .int) (t' := (.object "java/util/Set")) (by decide) (by decide)))
    have f15_Fld_a1_keepsArrears := f14_Fld_a1_keepsArrears.other W15 (Or.inr (slot_ne (Or.inr (hw _ (List.mem_of_getElem? (i := 49) rfl))) (Or.inr (hw _ (List.mem_of_getElem? (i := 47) rfl))) (by decide) (t := .boolean) (t' := (.object "java/util/Set")) (by decide) (by decide)))
    have f15_Exa_a4 := f14_Exa_a4.wr W15
    have f15_Fld_a4_size := f14_Fld_a4_size.other W15 (Or.inl nea)
    have N15 := Fr.snoc X15 N14 bg_a1
    have Z15 : n0 ≤ h15.size := Nat.le_trans Z14 (Keep.of_wr W15).1
    have K15 := K14.wr W15 (Or.inl (List.mem_of_getElem? (i := 0) rfl))
    refine own_st (t' := T15.setTop (mkF m 80 #[.val (.ref a1), .val (.ref a2), .val (.ref a3), .val (.int p1), .val (.ref a4), .val (.int p2)] [])) st15 ?_
    refine own_st (t' := T15.setTop (mkF m 81 #[.val (.ref a1), .val (.ref a2), .val (.ref a3), .val (.int p1), .val (.ref a4), .val (.int p2)] [(.ref a1)])) (fun _ k => XS.aloadN X15.here hx rfl (hb hby own_rm6_d80) rfl rfl k) ?_
    refine own_st (t' := T15.setTop (mkF m 83 #[.val (.ref a1), .val (.ref a2), .val (.ref a3), .val (.int p1), .val (.ref a4), .val (.int p2)] [(.int p2), (.ref a1)])) (fun _ k => XS.iload X15.here hx rfl (hb hby own_rm6_d81) rfl k) ?_
    obtain ⟨T16, h16, X16, e16, W16, st16⟩ := putFN X15 hx hZ hown (hw _ (List.mem_of_getElem? (i := 48) rfl)) Via.refl e15 f15_Fld_a1_keepsArrears f15_Exa_a1 (Or.inr ⟨(hw _ (List.mem_of_getElem? (i := 49) rfl)), rfl, hnm⟩) (hw _ (List.mem_of_getElem? (i := 2) rfl)) (ty := .boolean) (v' := (.int (nar .boolean p2))) (by decide) rfl (fits_nar_bool _) (g := (mkF m 83 #[.val (.ref a1), .val (.ref a2), .val (.ref a3), .val (.int p1), .val (.ref a4), .val (.int p2)] [(.int p2), (.ref a1)])) rfl rfl (hb hby own_rm6_d83)
    have Fw16 := f15_Fld_a1_keepsArrears.same W16
    have f16_Exa_a1 := f15_Exa_a1.wr W16
    have f16_Fld_a1_code := f15_Fld_a1_code.other W16 (Or.inr (slot_ne (Or.inr (hw _ (List.mem_of_getElem? (i := 41) rfl))) (Or.inr (hw _ (List.mem_of_getElem? (i := 49) rfl))) (by decide) (t := (.object "java/lang/String")) (t' := .boolean) (by decide) (by decide)))
    have f16_Fld_a1_name := f15_Fld_a1_name.other W16 (Or.inr (slot_ne (Or.inr (hw _ (List.mem_of_getElem? (i := 43) rfl))) (Or.inr (hw _ (List.mem_of_getElem? (i := 49) rfl))) (by decide) (t := (.object "java/lang/String")) (t' := .boolean) (by decide) (by decide)))
    have f16_Fld_a1_priority := f15_Fld_a1_priority.other W16 (Or.inr (slot_ne (Or.inr (hw _ (List.mem_of_getElem? (i := 45) rfl))) (Or.inr (hw _ (List.mem_of_getElem? (i := 49) rfl))) (by decide) (t := .int) (t' := .boolean) (by decide) (by decide)))
    have f16_Fld_a1_reduces := Fw15.other W16 (Or.inr (slot_ne (Or.inr (hw _ (List.mem_of_getElem? (i := 47) rfl))) (Or.inr (hw _ (List.mem_of_getElem? (i := 49) rfl))) (by decide) (t := (.object "java/util/Set")) (t' := .boolean) (by decide) (by decide)))
    have f16_Exa_a4 := f15_Exa_a4.wr W16
    have f16_Fld_a4_size := f15_Fld_a4_size.other W16 (Or.inl nea)
    have N16 := Fr.snoc X16 N15 bg_a1
    have Z16 : n0 ≤ h16.size := Nat.le_trans Z15 (Keep.of_wr W16).1
    have K16 := K15.wr W16 (Or.inl (List.mem_of_getElem? (i := 0) rfl))
    refine own_st (t' := T16.setTop (mkF m 86 #[.val (.ref a1), .val (.ref a2), .val (.ref a3), .val (.int p1), .val (.ref a4), .val (.int p2)] [])) st16 ?_
    obtain ⟨fs, hr, hrun, hended, hW, hsame⟩ := X16.leave (v := none) (fun _ => rfl)
    exact ⟨_, _, X16.returnOut hx Bd.returns (hb hby own_rm6_d86) hr, hrun, hended, hP _ _ ⟨_, _, rfl, ⟨rfl, N16, (by show Keep h0 T16.heap [a1] ∧ Exa Z T16.heap a1 "com/example/civipay/civipay/model/Deduction" ∧ Fld Z T16.heap a1 "com/example/civipay/civipay/model/Deduction" "priority" "I" (.int p1); rw [e16]; exact ⟨K16, f16_Exa_a1, f16_Fld_a1_priority⟩)⟩, ⟨_, rfl⟩, hW, hsame.mono (by decide) (by decide)⟩⟩

theorem own_rm7_d0 : decode prog_21_method_4_code 0 = .ok (.aload_n 0, 1) := by decide +kernel
theorem own_rm7_d1 : decode prog_21_method_4_code 1 = .ok (.getfield 41, 3) := by decide +kernel
theorem own_rm7_d4 : decode prog_21_method_4_code 4 = .ok (.sipush 5000, 3) := by decide +kernel
theorem own_rm7_d7 : decode prog_21_method_4_code 7 = .ok (.if_icmp .ge 7, 3) := by decide +kernel
theorem own_rm7_d10 : decode prog_21_method_4_code 10 = .ok (.iconst 1, 1) := by decide +kernel
theorem own_rm7_d11 : decode prog_21_method_4_code 11 = .ok (.goto 4, 3) := by decide +kernel
theorem own_rm7_d14 : decode prog_21_method_4_code 14 = .ok (.iconst 0, 1) := by decide +kernel
theorem own_rm7_d15 : decode prog_21_method_4_code 15 = .ok (.ireturn, 1) := by decide +kernel
theorem own_rm7_pn : plainName "com/example/civipay/civipay/model/Deduction" = true := by first | (simp [plainName, overriddenIn]; done) | decide +kernel
theorem own_rm7_ef (m : MethodId) (x0 : Addr) : entryFrame m #[(.ref x0)] 1 = mkF m 0 #[.val (.ref x0)] [] := by first | (simp [entryFrame, mkF, argsToLocals, Value.category]; done) | rfl
def own_rm7_Q (Z : State) (a1 : Addr) (x : Int32) (w : Int32) (h0 : Heap) (n0 : Nat) (v : Option Value) (h : Heap) (L : List Loc) : Prop := v = some (.int (w)) ∧ Fr n0 L ∧ h = h0
set_option maxRecDepth 65536 in
set_option maxHeartbeats 40000000 in
theorem own_rm7 (l : Launch) (Z : State) (a0 : Array Value) (hw : ∀ d ∈ tables_1, d.before a0 Z = true) (ws : List Jvm.Cond) (a1 : Addr) (x : Int32) (w : Int32) (h0 : Heap) (n0 : Nat) (Z0 : n0 ≤ h0.size) (F_p : Fld Z h0 a1 "com/example/civipay/civipay/model/Deduction" "priority" "I" (.int x)) (hv : w = if x < (5000 : Int32) then (1 : Int32) else (0 : Int32)) :
    MetFree l (⟨"com/example/civipay/civipay/model/Deduction", "isBeforeTaxes", "()Z"⟩ : MethodName) (head1 (Jvm.Cond.code (⟨"com/example/civipay/civipay/model/Deduction", "isBeforeTaxes", "()Z"⟩ : MethodName) prog_21_method_4_code 1 (some .boolean) :: ws) ({ frames := 0, cells := 0, slots := 0, locals := 0 } : Room)) (fun a U => a = #[(.ref a1)] ∧ Z.Warmed39 U.vm ∧ U.heap = h0) (fun _ _ _ _ _ => True) (fun _ U o U' => ∃ v L, o = .returned v ∧ own_rm7_Q Z a1 x w h0 n0 v U'.heap L ∧ FrameEnd U o U' L ({ frames := 0, cells := 0, slots := 0, locals := 0 } : Room).cells ({ frames := 0, cells := 0, slots := 0, locals := 0 } : Room).slots) := by
  refine MetFree.of_bodySF (plainFor_of_name own_rm7_pn) hisR ?_
  intro p e s m args below meth c s₁ Bd hml0 hPre hK
  obtain ⟨rfl, hZ, hh⟩ := hPre
  have hx := Bd.exec
  have hby := Bd.bytes
  have hml : c.maxLocals = 1 := hml0
  have hown : s.vm.findClass "com/example/civipay/civipay/model/Deduction" = some m.cls := findClass_of_methodNamed Bd.named
  have hnm := (name_of_methodNamed Bd.named Bd.method).1
  have X0 : Stand p l e ({ frames := 0, cells := 0, slots := 0, locals := 0 } : Room) s m #[(.ref a1)] below meth c s₁ [] 0 0 := Stand.of_body Bd
  have e0 : s₁.heap = h0 := by rw [← hh, Bd.state]; rfl
  have N0 := Fr.nil n0
  refine own_body fun P hP => ?_
  refine own_st (t' := s₁.setTop (mkF m 0 #[.val (.ref a1)] [])) (fun _ k => castTop (own_rm7_ef m a1) k) ?_
  refine own_st (t' := s₁.setTop (mkF m 1 #[.val (.ref a1)] [(.ref a1)])) (fun _ k => XS.aloadN X0.here hx rfl (hb hby own_rm7_d0) rfl rfl k) ?_
  obtain ⟨T1, X1, e1, st1⟩ := getF X0 hx hZ hown (host := "") (Or.inl (hw _ (List.mem_of_getElem? (i := 44) rfl))) Via.refl e0 F_p (g := (mkF m 1 #[.val (.ref a1)] [(.ref a1)])) rfl rfl (hb hby own_rm7_d1)
  refine own_st (t' := T1.setTop (mkF m 4 #[.val (.ref a1)] [(.int x)])) st1 ?_
  refine own_st (t' := T1.setTop (mkF m 7 #[.val (.ref a1)] [(.int (5000 : Int32)), (.int x)])) (fun _ k => XS.sipush X1.here hx rfl (hb hby own_rm7_d4) k) ?_
  by_cases c7_2 : x < (5000 : Int32)
  · refine own_st (t' := T1.setTop (mkF m 10 #[.val (.ref a1)] [])) (fun _ k => XS.icmpNo X1.here hx rfl (hb hby own_rm7_d7) rfl (tlt c7_2).2.1 k) ?_
    refine own_st (t' := T1.setTop (mkF m 11 #[.val (.ref a1)] [(.int (1 : Int32))])) (fun _ k => XS.iconst X1.here hx rfl (hb hby own_rm7_d10) k) ?_
    refine own_st (t' := T1.setTop (mkF m 15 #[.val (.ref a1)] [(.int (1 : Int32))])) (fun _ k => XS.goto X1.here hx rfl (pc0 := 11) (pc' := 15) rfl (hb hby own_rm7_d11) (by decide) (by decide) k) ?_
    have hv3 : (1 : Int32) = w := by rw [hv, if_pos c7_2]
    obtain ⟨fs, hr, hrun, hended, hW, hsame⟩ := X1.leave (v := some (.int (1 : Int32))) (fun h => by rw [Bd.returns] at h; cases h)
    exact ⟨_, _, retN X1 hx (t := .boolean) Bd.returns (by simp) (hb hby own_rm7_d15) hr, hrun, hended, hP _ _ ⟨_, _, rfl, ⟨(congrArg (fun z => some (Value.int z)) hv3), N0, e1⟩, ⟨_, rfl⟩, hW, hsame.mono (by decide) (by decide)⟩⟩
  · refine own_st (t' := T1.setTop (mkF m 14 #[.val (.ref a1)] [])) (fun _ k => XS.icmpYes X1.here hx rfl (pc0 := 7) (pc' := 14) rfl (hb hby own_rm7_d7) rfl (flt c7_2).2.1 (by decide) (by decide) k) ?_
    refine own_st (t' := T1.setTop (mkF m 15 #[.val (.ref a1)] [(.int (0 : Int32))])) (fun _ k => XS.iconst X1.here hx rfl (hb hby own_rm7_d14) k) ?_
    have hv4 : (0 : Int32) = w := by rw [hv, if_neg c7_2]
    obtain ⟨fs, hr, hrun, hended, hW, hsame⟩ := X1.leave (v := some (.int (0 : Int32))) (fun h => by rw [Bd.returns] at h; cases h)
    exact ⟨_, _, retN X1 hx (t := .boolean) Bd.returns (by simp) (hb hby own_rm7_d15) hr, hrun, hended, hP _ _ ⟨_, _, rfl, ⟨(congrArg (fun z => some (Value.int z)) hv4), N0, e1⟩, ⟨_, rfl⟩, hW, hsame.mono (by decide) (by decide)⟩⟩

theorem own_rm8_d0 : decode prog_21_method_10_code 0 = .ok (.aload_n 0, 1) := by decide +kernel
theorem own_rm8_d1 : decode prog_21_method_10_code 1 = .ok (.getfield 41, 3) := by decide +kernel
theorem own_rm8_d4 : decode prog_21_method_10_code 4 = .ok (.ireturn, 1) := by decide +kernel
theorem own_rm8_pn : plainName "com/example/civipay/civipay/model/Deduction" = true := by first | (simp [plainName, overriddenIn]; done) | decide +kernel
theorem own_rm8_ef (m : MethodId) (x0 : Addr) : entryFrame m #[(.ref x0)] 1 = mkF m 0 #[.val (.ref x0)] [] := by first | (simp [entryFrame, mkF, argsToLocals, Value.category]; done) | rfl
def own_rm8_Q (Z : State) (a1 : Addr) (x : Int32) (h0 : Heap) (n0 : Nat) (v : Option Value) (h : Heap) (L : List Loc) : Prop := v = some (.int (x)) ∧ Fr n0 L ∧ h = h0
set_option maxRecDepth 65536 in
set_option maxHeartbeats 40000000 in
theorem own_rm8 (l : Launch) (Z : State) (a0 : Array Value) (hw : ∀ d ∈ tables_1, d.before a0 Z = true) (ws : List Jvm.Cond) (a1 : Addr) (x : Int32) (h0 : Heap) (n0 : Nat) (Z0 : n0 ≤ h0.size) (F_p : Fld Z h0 a1 "com/example/civipay/civipay/model/Deduction" "priority" "I" (.int x)) :
    MetFree l (⟨"com/example/civipay/civipay/model/Deduction", "priority", "()I"⟩ : MethodName) (head1 (Jvm.Cond.code (⟨"com/example/civipay/civipay/model/Deduction", "priority", "()I"⟩ : MethodName) prog_21_method_10_code 1 (some .int) :: ws) ({ frames := 0, cells := 0, slots := 0, locals := 0 } : Room)) (fun a U => a = #[(.ref a1)] ∧ Z.Warmed39 U.vm ∧ U.heap = h0) (fun _ _ _ _ _ => True) (fun _ U o U' => ∃ v L, o = .returned v ∧ own_rm8_Q Z a1 x h0 n0 v U'.heap L ∧ FrameEnd U o U' L ({ frames := 0, cells := 0, slots := 0, locals := 0 } : Room).cells ({ frames := 0, cells := 0, slots := 0, locals := 0 } : Room).slots) := by
  refine MetFree.of_bodySF (plainFor_of_name own_rm8_pn) hisR ?_
  intro p e s m args below meth c s₁ Bd hml0 hPre hK
  obtain ⟨rfl, hZ, hh⟩ := hPre
  have hx := Bd.exec
  have hby := Bd.bytes
  have hml : c.maxLocals = 1 := hml0
  have hown : s.vm.findClass "com/example/civipay/civipay/model/Deduction" = some m.cls := findClass_of_methodNamed Bd.named
  have hnm := (name_of_methodNamed Bd.named Bd.method).1
  have X0 : Stand p l e ({ frames := 0, cells := 0, slots := 0, locals := 0 } : Room) s m #[(.ref a1)] below meth c s₁ [] 0 0 := Stand.of_body Bd
  have e0 : s₁.heap = h0 := by rw [← hh, Bd.state]; rfl
  have N0 := Fr.nil n0
  refine own_body fun P hP => ?_
  refine own_st (t' := s₁.setTop (mkF m 0 #[.val (.ref a1)] [])) (fun _ k => castTop (own_rm8_ef m a1) k) ?_
  refine own_st (t' := s₁.setTop (mkF m 1 #[.val (.ref a1)] [(.ref a1)])) (fun _ k => XS.aloadN X0.here hx rfl (hb hby own_rm8_d0) rfl rfl k) ?_
  obtain ⟨T1, X1, e1, st1⟩ := getF X0 hx hZ hown (host := "") (Or.inl (hw _ (List.mem_of_getElem? (i := 44) rfl))) Via.refl e0 F_p (g := (mkF m 1 #[.val (.ref a1)] [(.ref a1)])) rfl rfl (hb hby own_rm8_d1)
  refine own_st (t' := T1.setTop (mkF m 4 #[.val (.ref a1)] [(.int x)])) st1 ?_
  have hv2 : x = x := rfl
  obtain ⟨fs, hr, hrun, hended, hW, hsame⟩ := X1.leave (v := some (.int x)) (fun h => by rw [Bd.returns] at h; cases h)
  exact ⟨_, _, retI X1 hx Bd.returns (hb hby own_rm8_d4) hr, hrun, hended, hP _ _ ⟨_, _, rfl, ⟨(congrArg (fun z => some (Value.int z)) hv2), N0, e1⟩, ⟨_, rfl⟩, hW, hsame.mono (by decide) (by decide)⟩⟩

theorem own_rm0_pn : plainName "com/example/civipay/civipay/model/DeductionIsBeforeTaxesPinLaw" = true := by first | (simp [plainName, overriddenIn]; done) | decide +kernel
theorem own_rm0_pd0 : parseMethodDescriptor "()Ljava/util/Set;" = some ⟨[], some (.object "java/util/Set")⟩ := by decide +kernel
theorem own_rm0_pd1 : parseMethodDescriptor "(Ljava/lang/String;Ljava/lang/String;ILjava/util/Set;Z)V" = some ⟨[(.object "java/lang/String"), (.object "java/lang/String"), .int, (.object "java/util/Set"), .boolean], none⟩ := by decide +kernel
theorem own_rm0_pd2 : parseMethodDescriptor "()Z" = some ⟨[], some .boolean⟩ := by decide +kernel
theorem own_rm0_pd3 : parseMethodDescriptor "()I" = some ⟨[], some .int⟩ := by decide +kernel
theorem own_rm0_ef (m : MethodId) (x0 : Int32) (x1 : Int32) : entryFrame m #[(.int x0), (.int x1)] maxLocals = mkF m 0 #[.val (.int x0), .val (.int x1), .unset, .unset, .unset, .unset] [] := by first | (simp [entryFrame, mkF, argsToLocals, Value.category, maxLocals]; done) | rfl
def own_rm0_Q (Z : State) (p1 : Int32) (p2 : Int32) (wE : Addr) (h0 : Heap) (n0 : Nat) (v : Option Value) (h : Heap) (L : List Loc) : Prop := v = some (.int ((1 : Int32))) ∧ Fr n0 L
set_option maxRecDepth 65536 in
set_option maxHeartbeats 40000000 in
theorem own_rm0 (l : Launch) (Z : State) (a0 : Array Value) (hw : ∀ d ∈ tables_1, d.before a0 Z = true) (ws : List Jvm.Cond) (p1 : Int32) (p2 : Int32) (wE : Addr) (h0 : Heap) (n0 : Nat) (Z0 : n0 ≤ h0.size) (S_E : Sta Z h0 "java/util/ImmutableCollections" "EMPTY_SET" "Ljava/util/ImmutableCollections$SetN;" (.ref wE)) (E_E : Exa Z h0 wE "java/util/ImmutableCollections$SetN") (F_E : Fld Z h0 wE "java/util/ImmutableCollections$SetN" "size" "I" (.int (0 : Int32))) :
    MetFree l x (head1 (Jvm.Cond.code x code maxLocals ret :: ws) room_1) (fun a U => a = #[(.int p1), (.int p2)] ∧ Z.Warmed39 U.vm ∧ U.heap = h0) (fun _ _ _ _ _ => True) (fun _ U o U' => ∃ v L, o = .returned v ∧ own_rm0_Q Z p1 p2 wE h0 n0 v U'.heap L ∧ ReturnedEndW U o U' L room_1.cells room_1.slots) := by
  refine MetFree.of_bodySF (plainFor_of_name own_rm0_pn) hisR ?_
  intro p e s m args below meth c s₁ Bd hml0 hPre hK
  obtain ⟨rfl, hZ, hh⟩ := hPre
  have hx := Bd.exec
  have hby := Bd.bytes
  have hml : c.maxLocals = 6 := hml0
  have hown : s.vm.findClass "com/example/civipay/civipay/model/DeductionIsBeforeTaxesPinLaw" = some m.cls := findClass_of_methodNamed Bd.named
  have hnm := (name_of_methodNamed Bd.named Bd.method).1
  have X0 : Stand p l e room_1 s m #[(.int p1), (.int p2)] below meth c s₁ [] 0 0 := Stand.of_body Bd
  have e0 : s₁.heap = h0 := by rw [← hh, Bd.state]; rfl
  have N0 := Fr.nil n0
  have hSi : s.Since s.vm h0.size := State.WarmedH.since (State.WarmedH.refl s) _
  have hki : h0.size ≤ h0.size := Nat.le_refl _
  have wS : ∀ d ∈ Bundle.stringAtoms, d.before a0 Z = true := by
    intro d hd
    simp only [Bundle.stringAtoms, List.mem_cons, List.not_mem_nil, or_false] at hd
    rcases hd with rfl | rfl | rfl | rfl | rfl | rfl | rfl
    · exact (hw _ (List.mem_of_getElem? (i := 5) rfl))
    · exact (hw _ (List.mem_of_getElem? (i := 6) rfl))
    · exact (hw _ (List.mem_of_getElem? (i := 7) rfl))
    · exact (hw _ (List.mem_of_getElem? (i := 8) rfl))
    · exact (hw _ (List.mem_of_getElem? (i := 9) rfl))
    · exact (hw _ (List.mem_of_getElem? (i := 10) rfl))
    · exact (hw _ (List.mem_of_getElem? (i := 11) rfl))
  refine own_body fun P hP => ?_
  refine own_st (t' := s₁.setTop (mkF m 0 #[.val (.int p1), .val (.int p2), .unset, .unset, .unset, .unset] [])) (fun _ k => castTop (own_rm0_ef m p1 p2) k) ?_
  refine own_st (t' := s₁.setTop (mkF m 1 #[.val (.int p1), .val (.int p2), .unset, .unset, .unset, .unset] [(.int p1)])) (fun _ k => XS.iloadN X0.here hx rfl (hb hby at_0) rfl k) ?_
  refine own_st (t' := s₁.setTop (mkF m 3 #[.val (.int p1), .val (.int p2), .unset, .unset, .unset, .unset] [(.int (2147483647 : Int32)), (.int p1)])) (fun _ k => X0.ldcInt hx hown (mvT hZ (hw _ (List.mem_of_getElem? (i := 0) rfl))) (g := (mkF m 1 #[.val (.int p1), .val (.int p2), .unset, .unset, .unset, .unset] [(.int p1)])) rfl (hb hby at_1) _ k) ?_
  refine own_st (t' := s₁.setTop (mkF m 4 #[.val (.int p1), .val (.int p2), .unset, .unset, .unset, .unset] [(.int (p1 &&& (2147483647 : Int32)))])) (fun _ k => XS.iand X0.here hx rfl (hb hby at_3) rfl k) ?_
  refine own_st (t' := s₁.setTop (mkF m 5 #[.val (.int p1), .val (.int p2), .val (.int (p1 &&& (2147483647 : Int32))), .unset, .unset, .unset] [])) (fun _ k => XS.istoreN X0.here hx rfl (hb hby at_4) rfl (l' := #[.val (.int p1), .val (.int p2), .val (.int (p1 &&& (2147483647 : Int32))), .unset, .unset, .unset]) rfl k) ?_
  have hx0 := own_x0 p1
  generalize (p1 &&& (2147483647 : Int32)) = x0 at hx0 ⊢
  have J1 : ∀ xx : Int32, ¬ (own_pri xx) = (0 : Int32) → own_At p e below P (s₁.setTop (mkF m 25 #[.val (.int p1), .val (.int p2), .val (.int xx), .unset, .unset, .unset] [])) := by
    intro xx  hz_xx
    have J2 : ∀ kp : Int32, True → own_At p e below P (s₁.setTop (mkF m 36 #[.val (.int p1), .val (.int p2), .val (.int xx), .unset, .unset, .unset] [(.int kp)])) := by
      intro kp  _
      refine own_st (t' := s₁.setTop (mkF m 37 #[.val (.int p1), .val (.int p2), .val (.int xx), .val (.int kp), .unset, .unset] [])) (fun _ k => XS.istoreN X0.here hx rfl (hb hby at_36) rfl (l' := #[.val (.int p1), .val (.int p2), .val (.int xx), .val (.int kp), .unset, .unset]) rfl k) ?_
      obtain ⟨T3, h3, X3, e3, E3, A3, D3, -, st3⟩ := newO X0 hx hZ hown (hw _ (List.mem_of_getElem? (i := 1) rfl)) (hw _ (List.mem_of_getElem? (i := 2) rfl)) (hw _ (List.mem_of_getElem? (i := 3) rfl)) e0 (g := (mkF m 37 #[.val (.int p1), .val (.int p2), .val (.int xx), .val (.int kp), .unset, .unset] [])) rfl (hb hby at_37) (by decide) (by decide)
      obtain ⟨b3, g3⟩ : ∃ z, z = h0.size := ⟨_, rfl⟩
      rw [← g3] at A3 D3 st3
      have ne3_wE : wE ≠ b3 := Nat.ne_of_lt (Nat.lt_of_lt_of_le E_E.lt (Nat.le_of_eq g3.symm))
      have f3_Sta_java_util_ImmutableCollections_EMPTY_SET := S_E.ext E3
      have f3_Exa_wE := E_E.ext E3
      have f3_Fld_wE_size := F_E.ext E3
      have bg_b3 : n0 ≤ b3 := Nat.le_trans Z0 (Nat.le_of_eq g3.symm)
      have Z3 : n0 ≤ h3.size := Nat.le_trans Z0 E3.1
      have hki : _ ≤ h3.size := Nat.le_trans hki E3.1
      have F3_code : Fld Z h3 b3 "com/example/civipay/civipay/model/Deduction" "code" "Ljava/lang/String;" .null := D3 (Or.inr (hw _ (List.mem_of_getElem? (i := 41) rfl))) (ty := (.object "java/lang/String")) (by decide)
      have F3_name : Fld Z h3 b3 "com/example/civipay/civipay/model/Deduction" "name" "Ljava/lang/String;" .null := D3 (Or.inr (hw _ (List.mem_of_getElem? (i := 43) rfl))) (ty := (.object "java/lang/String")) (by decide)
      have F3_priority : Fld Z h3 b3 "com/example/civipay/civipay/model/Deduction" "priority" "I" (.int (0 : Int32)) := D3 (Or.inr (hw _ (List.mem_of_getElem? (i := 45) rfl))) (ty := .int) (by decide)
      have F3_reduces : Fld Z h3 b3 "com/example/civipay/civipay/model/Deduction" "reduces" "Ljava/util/Set;" .null := D3 (Or.inr (hw _ (List.mem_of_getElem? (i := 47) rfl))) (ty := (.object "java/util/Set")) (by decide)
      have F3_keepsArrears : Fld Z h3 b3 "com/example/civipay/civipay/model/Deduction" "keepsArrears" "Z" (.int (0 : Int32)) := D3 (Or.inr (hw _ (List.mem_of_getElem? (i := 49) rfl))) (ty := .boolean) (by decide)
      refine own_st (t' := T3.setTop (mkF m 40 #[.val (.int p1), .val (.int p2), .val (.int xx), .val (.int kp), .unset, .unset] [(.ref b3)])) st3 ?_
      refine own_st (t' := T3.setTop (mkF m 41 #[.val (.int p1), .val (.int p2), .val (.int xx), .val (.int kp), .unset, .unset] [(.ref b3), (.ref b3)])) (fun _ k => XS.dup X3.here hx rfl (hb hby at_40) rfl rfl k) ?_
      obtain ⟨c4, T4, h4, kn4, X4, e4, E4, hSi, hki, hZ, hown, st4⟩ := ldcS (s := s) (vm0 := s.vm) X3 hx hZ hown (hw _ (List.mem_of_getElem? (i := 4) rfl)) wS e3 hSi hki (g := (mkF m 41 #[.val (.int p1), .val (.int p2), .val (.int xx), .val (.int kp), .unset, .unset] [(.ref b3), (.ref b3)])) rfl (hb hby at_41) (n := 4) (by decide) (by decide) (by decide) (by decide)
      have f4_Sta_java_util_ImmutableCollections_EMPTY_SET := f3_Sta_java_util_ImmutableCollections_EMPTY_SET.ext E4
      have f4_Exa_wE := f3_Exa_wE.ext E4
      have f4_Fld_wE_size := f3_Fld_wE_size.ext E4
      have f4_Exa_b3 := A3.ext E4
      have f4_Fld_b3_code := F3_code.ext E4
      have f4_Fld_b3_name := F3_name.ext E4
      have f4_Fld_b3_priority := F3_priority.ext E4
      have f4_Fld_b3_reduces := F3_reduces.ext E4
      have f4_Fld_b3_keepsArrears := F3_keepsArrears.ext E4
      have Z4 : n0 ≤ h4.size := Nat.le_trans Z3 E4.1
      refine own_st (t' := T4.setTop (mkF m 43 #[.val (.int p1), .val (.int p2), .val (.int xx), .val (.int kp), .unset, .unset] [(.ref c4), (.ref b3), (.ref b3)])) st4 ?_
      obtain ⟨c5, T5, h5, kn5, X5, e5, E5, hSi, hki, hZ, hown, st5⟩ := ldcS (s := s) (vm0 := T4.vm) X4 hx hZ hown (hw _ (List.mem_of_getElem? (i := 12) rfl)) wS e4 hSi hki (g := (mkF m 43 #[.val (.int p1), .val (.int p2), .val (.int xx), .val (.int kp), .unset, .unset] [(.ref c4), (.ref b3), (.ref b3)])) rfl (hb hby at_43) (n := 4) (by decide) (by decide) (by decide) (by decide)
      have f5_Sta_java_util_ImmutableCollections_EMPTY_SET := f4_Sta_java_util_ImmutableCollections_EMPTY_SET.ext E5
      have f5_Exa_wE := f4_Exa_wE.ext E5
      have f5_Fld_wE_size := f4_Fld_wE_size.ext E5
      have f5_Exa_b3 := f4_Exa_b3.ext E5
      have f5_Fld_b3_code := f4_Fld_b3_code.ext E5
      have f5_Fld_b3_name := f4_Fld_b3_name.ext E5
      have f5_Fld_b3_priority := f4_Fld_b3_priority.ext E5
      have f5_Fld_b3_reduces := f4_Fld_b3_reduces.ext E5
      have f5_Fld_b3_keepsArrears := f4_Fld_b3_keepsArrears.ext E5
      have Z5 : n0 ≤ h5.size := Nat.le_trans Z4 E5.1
      refine own_st (t' := T5.setTop (mkF m 45 #[.val (.int p1), .val (.int p2), .val (.int xx), .val (.int kp), .unset, .unset] [(.ref c5), (.ref c4), (.ref b3), (.ref b3)])) st5 ?_
      refine own_st (t' := T5.setTop (mkF m 46 #[.val (.int p1), .val (.int p2), .val (.int xx), .val (.int kp), .unset, .unset] [(.int xx), (.ref c5), (.ref c4), (.ref b3), (.ref b3)])) (fun _ k => XS.iloadN X5.here hx rfl (hb hby at_45) rfl k) ?_
      obtain ⟨_, _, ⟨T6, L6, k6, n6⟩, -, X6, ⟨Lc6, hQ6, l6, y6, z6⟩, st6⟩ := Jvm.LawKit.callS X5 hx (y := (⟨"java/util/Set", "of", "()Ljava/util/Set;"⟩ : MethodName)) hown (mvT hZ (hw _ (List.mem_of_getElem? (i := 13) rfl))) (mvT hZ (hw _ (List.mem_of_getElem? (i := 14) rfl))) (mvT hZ (hw _ (List.mem_of_getElem? (i := 15) rfl))) (mvT hZ (hw _ (List.mem_of_getElem? (i := 16) rfl))) (by decide) (backOf (W := 5) (own_rm3 l Z a0 hw [] wE h5 n0 Z5 f5_Sta_java_util_ImmutableCollections_EMPTY_SET) hZ (hw _ (List.mem_of_getElem? (i := 16) rfl)) (hw _ (List.mem_of_getElem? (i := 15) rfl)) (by decide) (by decide)) (g := (mkF m 46 #[.val (.int p1), .val (.int p2), .val (.int xx), .val (.int kp), .unset, .unset] [(.int xx), (.ref c5), (.ref c4), (.ref b3), (.ref b3)])) rfl (by rw [hml]; rfl) (argsL := []) (rest := [(.int xx), (.ref c5), (.ref c4), (.ref b3), (.ref b3)]) (lenOf own_rm0_pd0 rfl) rfl (by show 2 * 0 + _ ≤ _; exact Nat.le_of_eq rfl) (hb hby at_46) (fun _ _ => ⟨rfl, e5, (by decide : 0 + 1 + 2 + 2 + 0 ≤ _), (by decide : 0 + 5 + (4 + 4) + (4 + 4) + 0 ≤ _)⟩)
      dsimp only [Pt.U, Pt.locs, Pt.cells, Pt.slots] at X6 l6 y6 z6 st6 hQ6
      subst l6 y6 z6
      obtain ⟨rfl, N6q, e6⟩ := hQ6
      have N6 := Fr.app N0 N6q
      refine own_st (t' := T6.setTop (mkF m 49 #[.val (.int p1), .val (.int p2), .val (.int xx), .val (.int kp), .unset, .unset] [(.ref wE), (.int xx), (.ref c5), (.ref c4), (.ref b3), (.ref b3)])) st6 ?_
      refine own_st (t' := T6.setTop (mkF m 50 #[.val (.int p1), .val (.int p2), .val (.int xx), .val (.int kp), .unset, .unset] [(.int kp), (.ref wE), (.int xx), (.ref c5), (.ref c4), (.ref b3), (.ref b3)])) (fun _ k => XS.iloadN X6.here hx rfl (hb hby at_49) rfl k) ?_
      obtain ⟨_, _, ⟨T7, L7, k7, n7⟩, -, X7, ⟨Lc7, hQ7, l7, y7, z7⟩, st7⟩ := X6.specialBack hx (y := (⟨"com/example/civipay/civipay/model/Deduction", "<init>", "(Ljava/lang/String;Ljava/lang/String;ILjava/util/Set;Z)V"⟩ : MethodName)) rfl hown (mvT hZ (hw _ (List.mem_of_getElem? (i := 19) rfl))) (mvT hZ (hw _ (List.mem_of_getElem? (i := 20) rfl))) (mvT hZ (hw _ (List.mem_of_getElem? (i := 21) rfl))) (by decide) (backOf (W := 1) (own_rm6 l Z a0 hw [] b3 c4 c5 xx wE kp h5 n0 Z5 f5_Exa_b3 f5_Fld_b3_code f5_Fld_b3_name f5_Fld_b3_priority f5_Fld_b3_reduces f5_Fld_b3_keepsArrears bg_b3 f5_Exa_wE f5_Fld_wE_size hz_xx ne3_wE) hZ (hw _ (List.mem_of_getElem? (i := 21) rfl)) (hw _ (List.mem_of_getElem? (i := 3) rfl)) (by decide) (by decide)) (g := (mkF m 50 #[.val (.int p1), .val (.int p2), .val (.int xx), .val (.int kp), .unset, .unset] [(.int kp), (.ref wE), (.int xx), (.ref c5), (.ref c4), (.ref b3), (.ref b3)])) rfl (by rw [hml]; rfl) (Steps.refl _) (a := b3) (argsL := [(.ref c4), (.ref c5), (.int xx), (.ref wE), (.int kp)]) (rest := [(.ref b3)]) (lenOf own_rm0_pd1 rfl) rfl (by show 2 * 0 + _ ≤ _; exact Nat.le_of_eq rfl) (hb hby at_50) (fun _ _ => ⟨rfl, e6, (by decide : 0 + 1 + 2 + 2 + 0 + 0 ≤ _), (by decide : 0 + 5 + (4 + 4) + (4 + 4) + 0 + 0 ≤ _)⟩)
      dsimp only [Pt.U, Pt.locs, Pt.cells, Pt.slots] at X7 l7 y7 z7 st7 hQ7
      subst l7 y7 z7
      obtain ⟨rfl, N7q, K7q, g7e, g7f0⟩ := hQ7
      have N7 := Fr.app N6 N7q
      have f7_Sta_java_util_ImmutableCollections_EMPTY_SET := own_staK f5_Sta_java_util_ImmutableCollections_EMPTY_SET K7q f5_Exa_b3
      have f7_Exa_wE := f5_Exa_wE.keep K7q
      have f7_Fld_wE_size := f5_Fld_wE_size.keep K7q (own_nin ne3_wE)
      have f7_Exa_b3 := f5_Exa_b3.keep K7q
      have Z7 : n0 ≤ T7.heap.size := Nat.le_trans Z5 K7q.1
      have hki : _ ≤ T7.heap.size := Nat.le_trans hki K7q.1
      refine own_tr (t' := T7.setTop (mkF m 53 #[.val (.int p1), .val (.int p2), .val (.int xx), .val (.int kp), .unset, .unset] [(.ref b3)])) st7 ?_
      refine own_st (t' := T7.setTop (mkF m 55 #[.val (.int p1), .val (.int p2), .val (.int xx), .val (.int kp), .val (.ref b3), .unset] [])) (fun _ k => XS.astore X7.here hx rfl (hb hby at_53) rfl rfl (l' := #[.val (.int p1), .val (.int p2), .val (.int xx), .val (.int kp), .val (.ref b3), .unset]) rfl k) ?_
      refine own_st (t' := T7.setTop (mkF m 56 #[.val (.int p1), .val (.int p2), .val (.int xx), .val (.int kp), .val (.ref b3), .unset] [(.int xx)])) (fun _ k => XS.iloadN X7.here hx rfl (hb hby at_55) rfl k) ?_
      refine own_st (t' := T7.setTop (mkF m 59 #[.val (.int p1), .val (.int p2), .val (.int xx), .val (.int kp), .val (.ref b3), .unset] [(.int (4999 : Int32)), (.int xx)])) (fun _ k => XS.sipush X7.here hx rfl (hb hby at_56) k) ?_
      by_cases c59_8 : (4999 : Int32) < xx
      · refine own_st (t' := T7.setTop (mkF m 66 #[.val (.int p1), .val (.int p2), .val (.int xx), .val (.int kp), .val (.ref b3), .unset] [])) (fun _ k => XS.icmpYes X7.here hx rfl (pc0 := 59) (pc' := 66) rfl (hb hby at_59) rfl (tlt c59_8).2.2.1 (by decide) (by decide) k) ?_
        refine own_st (t' := T7.setTop (mkF m 67 #[.val (.int p1), .val (.int p2), .val (.int xx), .val (.int kp), .val (.ref b3), .unset] [(.int (0 : Int32))])) (fun _ k => XS.iconst X7.here hx rfl (hb hby at_66) k) ?_
        refine own_st (t' := T7.setTop (mkF m 69 #[.val (.int p1), .val (.int p2), .val (.int xx), .val (.int kp), .val (.ref b3), .val (.int (0 : Int32))] [])) (fun _ k => XS.istore X7.here hx rfl (hb hby at_67) rfl (l' := #[.val (.int p1), .val (.int p2), .val (.int xx), .val (.int kp), .val (.ref b3), .val (.int (0 : Int32))]) rfl k) ?_
        refine own_st (t' := T7.setTop (mkF m 71 #[.val (.int p1), .val (.int p2), .val (.int xx), .val (.int kp), .val (.ref b3), .val (.int (0 : Int32))] [(.ref b3)])) (fun _ k => XS.aload X7.here hx rfl (hb hby at_69) rfl rfl k) ?_
        obtain ⟨cq9, kq9, q9a, q9b, q9c⟩ := isOf hZ rfl g7e
        obtain ⟨_, _, ⟨T9, L9, k9, n9⟩, -, X9, ⟨Lc9, hQ9, l9, y9, z9⟩, st9⟩ := X7.virtualBack hx (y := (⟨"com/example/civipay/civipay/model/Deduction", "isBeforeTaxes", "()Z"⟩ : MethodName)) (z := (⟨"com/example/civipay/civipay/model/Deduction", "isBeforeTaxes", "()Z"⟩ : MethodName)) hown (mvT hZ (hw _ (List.mem_of_getElem? (i := 50) rfl))) (mvT hZ (hw _ (List.mem_of_getElem? (i := 51) rfl))) (notFace_of_selects (args := #[]) (mvT hZ (hw _ (List.mem_of_getElem? (i := 53) rfl)))) (mvT hZ (hw _ (List.mem_of_getElem? (i := 53) rfl))) (mvT hZ (hw _ (List.mem_of_getElem? (i := 52) rfl))) (by decide) (backOf (W := 0) (own_rm7 l Z a0 hw [] b3 xx (0 : Int32) T7.heap n0 Z7 g7f0 ((if_neg (own_b0 c59_8)).symm)) hZ (hw _ (List.mem_of_getElem? (i := 54) rfl)) (hw _ (List.mem_of_getElem? (i := 3) rfl)) (by decide) (by decide)) q9a q9c (g := (mkF m 71 #[.val (.int p1), .val (.int p2), .val (.int xx), .val (.int kp), .val (.ref b3), .val (.int (0 : Int32))] [(.ref b3)])) rfl (by rw [hml]; rfl) (Steps.refl _) (argsL := []) (rest := []) (lenOf own_rm0_pd2 rfl) rfl (by show 2 * 0 + _ ≤ _; exact Nat.le_of_eq rfl) (hb hby at_71) (fun _ _ => ⟨rfl, rfl, (by decide : 0 + 1 + 2 + 2 + 0 + 0 + 0 ≤ _), (by decide : 0 + 5 + (4 + 4) + (4 + 4) + 0 + 0 + 0 ≤ _)⟩)
        dsimp only [Pt.U, Pt.locs, Pt.cells, Pt.slots] at X9 l9 y9 z9 st9 hQ9
        subst l9 y9 z9
        obtain ⟨rfl, N9q, e9⟩ := hQ9
        have N9 := Fr.app N7 N9q
        refine own_tr (t' := T9.setTop (mkF m 74 #[.val (.int p1), .val (.int p2), .val (.int xx), .val (.int kp), .val (.ref b3), .val (.int (0 : Int32))] [(.int (0 : Int32))])) st9 ?_
        refine own_st (t' := T9.setTop (mkF m 76 #[.val (.int p1), .val (.int p2), .val (.int xx), .val (.int kp), .val (.ref b3), .val (.int (0 : Int32))] [(.int (0 : Int32)), (.int (0 : Int32))])) (fun _ k => XS.iload X9.here hx rfl (hb hby at_74) rfl k) ?_
        refine own_st (t' := T9.setTop (mkF m 79 #[.val (.int p1), .val (.int p2), .val (.int xx), .val (.int kp), .val (.ref b3), .val (.int (0 : Int32))] [])) (fun _ k => XS.icmpNo X9.here hx rfl (hb hby at_76) rfl (teq (rfl : (0 : Int32) = (0 : Int32))).2 k) ?_
        refine own_st (t' := T9.setTop (mkF m 81 #[.val (.int p1), .val (.int p2), .val (.int xx), .val (.int kp), .val (.ref b3), .val (.int (0 : Int32))] [(.ref b3)])) (fun _ k => XS.aload X9.here hx rfl (hb hby at_79) rfl rfl k) ?_
        obtain ⟨cq10, kq10, q10a, q10b, q10c⟩ := isOf hZ e9 g7e
        obtain ⟨_, _, ⟨T10, L10, k10, n10⟩, -, X10, ⟨Lc10, hQ10, l10, y10, z10⟩, st10⟩ := X9.virtualBack hx (y := (⟨"com/example/civipay/civipay/model/Deduction", "priority", "()I"⟩ : MethodName)) (z := (⟨"com/example/civipay/civipay/model/Deduction", "priority", "()I"⟩ : MethodName)) hown (mvT hZ (hw _ (List.mem_of_getElem? (i := 55) rfl))) (mvT hZ (hw _ (List.mem_of_getElem? (i := 56) rfl))) (notFace_of_selects (args := #[]) (mvT hZ (hw _ (List.mem_of_getElem? (i := 58) rfl)))) (mvT hZ (hw _ (List.mem_of_getElem? (i := 58) rfl))) (mvT hZ (hw _ (List.mem_of_getElem? (i := 57) rfl))) (by decide) (backOf (W := 0) (own_rm8 l Z a0 hw [] b3 xx T7.heap n0 Z7 g7f0) hZ (hw _ (List.mem_of_getElem? (i := 59) rfl)) (hw _ (List.mem_of_getElem? (i := 3) rfl)) (by decide) (by decide)) q10a q10c (g := (mkF m 81 #[.val (.int p1), .val (.int p2), .val (.int xx), .val (.int kp), .val (.ref b3), .val (.int (0 : Int32))] [(.ref b3)])) rfl (by rw [hml]; rfl) (Steps.refl _) (argsL := []) (rest := []) (lenOf own_rm0_pd3 rfl) rfl (by show 2 * 0 + _ ≤ _; exact Nat.le_of_eq rfl) (hb hby at_81) (fun _ _ => ⟨rfl, e9, (by decide : 0 + 1 + 2 + 2 + 0 + 0 + 0 + 0 ≤ _), (by decide : 0 + 5 + (4 + 4) + (4 + 4) + 0 + 0 + 0 + 0 ≤ _)⟩)
        dsimp only [Pt.U, Pt.locs, Pt.cells, Pt.slots] at X10 l10 y10 z10 st10 hQ10
        subst l10 y10 z10
        obtain ⟨rfl, N10q, e10⟩ := hQ10
        have N10 := Fr.app N9 N10q
        refine own_tr (t' := T10.setTop (mkF m 84 #[.val (.int p1), .val (.int p2), .val (.int xx), .val (.int kp), .val (.ref b3), .val (.int (0 : Int32))] [(.int xx)])) st10 ?_
        refine own_st (t' := T10.setTop (mkF m 85 #[.val (.int p1), .val (.int p2), .val (.int xx), .val (.int kp), .val (.ref b3), .val (.int (0 : Int32))] [(.int xx), (.int xx)])) (fun _ k => XS.iloadN X10.here hx rfl (hb hby at_84) rfl k) ?_
        refine own_st (t' := T10.setTop (mkF m 88 #[.val (.int p1), .val (.int p2), .val (.int xx), .val (.int kp), .val (.ref b3), .val (.int (0 : Int32))] [])) (fun _ k => XS.icmpNo X10.here hx rfl (hb hby at_85) rfl (teq (rfl : xx = xx)).2 k) ?_
        refine own_st (t' := T10.setTop (mkF m 89 #[.val (.int p1), .val (.int p2), .val (.int xx), .val (.int kp), .val (.ref b3), .val (.int (0 : Int32))] [(.int (1 : Int32))])) (fun _ k => XS.iconst X10.here hx rfl (hb hby at_88) k) ?_
        refine own_st (t' := T10.setTop (mkF m 93 #[.val (.int p1), .val (.int p2), .val (.int xx), .val (.int kp), .val (.ref b3), .val (.int (0 : Int32))] [(.int (1 : Int32))])) (fun _ k => XS.goto X10.here hx rfl (pc0 := 89) (pc' := 93) rfl (hb hby at_89) (by decide) (by decide) k) ?_
        have hv11 : (1 : Int32) = (1 : Int32) := rfl
        obtain ⟨fs, hr, hrun, hended, hEnd⟩ := Stand.leaveW (s := s) (vm₁ := T5.vm) X10 hSi (by rw [e10]; exact hki) (v := some (.int (1 : Int32))) (fun h => by rw [Bd.returns] at h; cases h)
        exact ⟨_, _, retN X10 hx (t := .boolean) Bd.returns (by simp) (hb hby at_93) hr, hrun, hended, hP _ _ ⟨_, _, rfl, ⟨(congrArg (fun z => some (Value.int z)) hv11), N10⟩, ⟨_, rfl⟩, hEnd.2.1, hEnd.2.2.1, hEnd.2.2.2.mono (by decide) (by decide)⟩⟩
      · refine own_st (t' := T7.setTop (mkF m 62 #[.val (.int p1), .val (.int p2), .val (.int xx), .val (.int kp), .val (.ref b3), .unset] [])) (fun _ k => XS.icmpNo X7.here hx rfl (hb hby at_59) rfl (flt c59_8).2.2.1 k) ?_
        refine own_st (t' := T7.setTop (mkF m 63 #[.val (.int p1), .val (.int p2), .val (.int xx), .val (.int kp), .val (.ref b3), .unset] [(.int (1 : Int32))])) (fun _ k => XS.iconst X7.here hx rfl (hb hby at_62) k) ?_
        refine own_st (t' := T7.setTop (mkF m 67 #[.val (.int p1), .val (.int p2), .val (.int xx), .val (.int kp), .val (.ref b3), .unset] [(.int (1 : Int32))])) (fun _ k => XS.goto X7.here hx rfl (pc0 := 63) (pc' := 67) rfl (hb hby at_63) (by decide) (by decide) k) ?_
        refine own_st (t' := T7.setTop (mkF m 69 #[.val (.int p1), .val (.int p2), .val (.int xx), .val (.int kp), .val (.ref b3), .val (.int (1 : Int32))] [])) (fun _ k => XS.istore X7.here hx rfl (hb hby at_67) rfl (l' := #[.val (.int p1), .val (.int p2), .val (.int xx), .val (.int kp), .val (.ref b3), .val (.int (1 : Int32))]) rfl k) ?_
        refine own_st (t' := T7.setTop (mkF m 71 #[.val (.int p1), .val (.int p2), .val (.int xx), .val (.int kp), .val (.ref b3), .val (.int (1 : Int32))] [(.ref b3)])) (fun _ k => XS.aload X7.here hx rfl (hb hby at_69) rfl rfl k) ?_
        obtain ⟨cq12, kq12, q12a, q12b, q12c⟩ := isOf hZ rfl g7e
        obtain ⟨_, _, ⟨T12, L12, k12, n12⟩, -, X12, ⟨Lc12, hQ12, l12, y12, z12⟩, st12⟩ := X7.virtualBack hx (y := (⟨"com/example/civipay/civipay/model/Deduction", "isBeforeTaxes", "()Z"⟩ : MethodName)) (z := (⟨"com/example/civipay/civipay/model/Deduction", "isBeforeTaxes", "()Z"⟩ : MethodName)) hown (mvT hZ (hw _ (List.mem_of_getElem? (i := 50) rfl))) (mvT hZ (hw _ (List.mem_of_getElem? (i := 51) rfl))) (notFace_of_selects (args := #[]) (mvT hZ (hw _ (List.mem_of_getElem? (i := 53) rfl)))) (mvT hZ (hw _ (List.mem_of_getElem? (i := 53) rfl))) (mvT hZ (hw _ (List.mem_of_getElem? (i := 52) rfl))) (by decide) (backOf (W := 0) (own_rm7 l Z a0 hw [] b3 xx (1 : Int32) T7.heap n0 Z7 g7f0 ((if_pos (own_b1 c59_8)).symm)) hZ (hw _ (List.mem_of_getElem? (i := 54) rfl)) (hw _ (List.mem_of_getElem? (i := 3) rfl)) (by decide) (by decide)) q12a q12c (g := (mkF m 71 #[.val (.int p1), .val (.int p2), .val (.int xx), .val (.int kp), .val (.ref b3), .val (.int (1 : Int32))] [(.ref b3)])) rfl (by rw [hml]; rfl) (Steps.refl _) (argsL := []) (rest := []) (lenOf own_rm0_pd2 rfl) rfl (by show 2 * 0 + _ ≤ _; exact Nat.le_of_eq rfl) (hb hby at_71) (fun _ _ => ⟨rfl, rfl, (by decide : 0 + 1 + 2 + 2 + 0 + 0 + 0 ≤ _), (by decide : 0 + 5 + (4 + 4) + (4 + 4) + 0 + 0 + 0 ≤ _)⟩)
        dsimp only [Pt.U, Pt.locs, Pt.cells, Pt.slots] at X12 l12 y12 z12 st12 hQ12
        subst l12 y12 z12
        obtain ⟨rfl, N12q, e12⟩ := hQ12
        have N12 := Fr.app N7 N12q
        refine own_tr (t' := T12.setTop (mkF m 74 #[.val (.int p1), .val (.int p2), .val (.int xx), .val (.int kp), .val (.ref b3), .val (.int (1 : Int32))] [(.int (1 : Int32))])) st12 ?_
        refine own_st (t' := T12.setTop (mkF m 76 #[.val (.int p1), .val (.int p2), .val (.int xx), .val (.int kp), .val (.ref b3), .val (.int (1 : Int32))] [(.int (1 : Int32)), (.int (1 : Int32))])) (fun _ k => XS.iload X12.here hx rfl (hb hby at_74) rfl k) ?_
        refine own_st (t' := T12.setTop (mkF m 79 #[.val (.int p1), .val (.int p2), .val (.int xx), .val (.int kp), .val (.ref b3), .val (.int (1 : Int32))] [])) (fun _ k => XS.icmpNo X12.here hx rfl (hb hby at_76) rfl (teq (rfl : (1 : Int32) = (1 : Int32))).2 k) ?_
        refine own_st (t' := T12.setTop (mkF m 81 #[.val (.int p1), .val (.int p2), .val (.int xx), .val (.int kp), .val (.ref b3), .val (.int (1 : Int32))] [(.ref b3)])) (fun _ k => XS.aload X12.here hx rfl (hb hby at_79) rfl rfl k) ?_
        obtain ⟨cq13, kq13, q13a, q13b, q13c⟩ := isOf hZ e12 g7e
        obtain ⟨_, _, ⟨T13, L13, k13, n13⟩, -, X13, ⟨Lc13, hQ13, l13, y13, z13⟩, st13⟩ := X12.virtualBack hx (y := (⟨"com/example/civipay/civipay/model/Deduction", "priority", "()I"⟩ : MethodName)) (z := (⟨"com/example/civipay/civipay/model/Deduction", "priority", "()I"⟩ : MethodName)) hown (mvT hZ (hw _ (List.mem_of_getElem? (i := 55) rfl))) (mvT hZ (hw _ (List.mem_of_getElem? (i := 56) rfl))) (notFace_of_selects (args := #[]) (mvT hZ (hw _ (List.mem_of_getElem? (i := 58) rfl)))) (mvT hZ (hw _ (List.mem_of_getElem? (i := 58) rfl))) (mvT hZ (hw _ (List.mem_of_getElem? (i := 57) rfl))) (by decide) (backOf (W := 0) (own_rm8 l Z a0 hw [] b3 xx T7.heap n0 Z7 g7f0) hZ (hw _ (List.mem_of_getElem? (i := 59) rfl)) (hw _ (List.mem_of_getElem? (i := 3) rfl)) (by decide) (by decide)) q13a q13c (g := (mkF m 81 #[.val (.int p1), .val (.int p2), .val (.int xx), .val (.int kp), .val (.ref b3), .val (.int (1 : Int32))] [(.ref b3)])) rfl (by rw [hml]; rfl) (Steps.refl _) (argsL := []) (rest := []) (lenOf own_rm0_pd3 rfl) rfl (by show 2 * 0 + _ ≤ _; exact Nat.le_of_eq rfl) (hb hby at_81) (fun _ _ => ⟨rfl, e12, (by decide : 0 + 1 + 2 + 2 + 0 + 0 + 0 + 0 ≤ _), (by decide : 0 + 5 + (4 + 4) + (4 + 4) + 0 + 0 + 0 + 0 ≤ _)⟩)
        dsimp only [Pt.U, Pt.locs, Pt.cells, Pt.slots] at X13 l13 y13 z13 st13 hQ13
        subst l13 y13 z13
        obtain ⟨rfl, N13q, e13⟩ := hQ13
        have N13 := Fr.app N12 N13q
        refine own_tr (t' := T13.setTop (mkF m 84 #[.val (.int p1), .val (.int p2), .val (.int xx), .val (.int kp), .val (.ref b3), .val (.int (1 : Int32))] [(.int xx)])) st13 ?_
        refine own_st (t' := T13.setTop (mkF m 85 #[.val (.int p1), .val (.int p2), .val (.int xx), .val (.int kp), .val (.ref b3), .val (.int (1 : Int32))] [(.int xx), (.int xx)])) (fun _ k => XS.iloadN X13.here hx rfl (hb hby at_84) rfl k) ?_
        refine own_st (t' := T13.setTop (mkF m 88 #[.val (.int p1), .val (.int p2), .val (.int xx), .val (.int kp), .val (.ref b3), .val (.int (1 : Int32))] [])) (fun _ k => XS.icmpNo X13.here hx rfl (hb hby at_85) rfl (teq (rfl : xx = xx)).2 k) ?_
        refine own_st (t' := T13.setTop (mkF m 89 #[.val (.int p1), .val (.int p2), .val (.int xx), .val (.int kp), .val (.ref b3), .val (.int (1 : Int32))] [(.int (1 : Int32))])) (fun _ k => XS.iconst X13.here hx rfl (hb hby at_88) k) ?_
        refine own_st (t' := T13.setTop (mkF m 93 #[.val (.int p1), .val (.int p2), .val (.int xx), .val (.int kp), .val (.ref b3), .val (.int (1 : Int32))] [(.int (1 : Int32))])) (fun _ k => XS.goto X13.here hx rfl (pc0 := 89) (pc' := 93) rfl (hb hby at_89) (by decide) (by decide) k) ?_
        have hv14 : (1 : Int32) = (1 : Int32) := rfl
        obtain ⟨fs, hr, hrun, hended, hEnd⟩ := Stand.leaveW (s := s) (vm₁ := T5.vm) X13 hSi (by rw [e13]; exact hki) (v := some (.int (1 : Int32))) (fun h => by rw [Bd.returns] at h; cases h)
        exact ⟨_, _, retN X13 hx (t := .boolean) Bd.returns (by simp) (hb hby at_93) hr, hrun, hended, hP _ _ ⟨_, _, rfl, ⟨(congrArg (fun z => some (Value.int z)) hv14), N13⟩, ⟨_, rfl⟩, hEnd.2.1, hEnd.2.2.1, hEnd.2.2.2.mono (by decide) (by decide)⟩⟩
    refine own_st (t' := s₁.setTop (mkF m 26 #[.val (.int p1), .val (.int p2), .val (.int xx), .unset, .unset, .unset] [(.int p2)])) (fun _ k => XS.iloadN X0.here hx rfl (hb hby at_25) rfl k) ?_
    refine own_st (t' := s₁.setTop (mkF m 27 #[.val (.int p1), .val (.int p2), .val (.int xx), .unset, .unset, .unset] [(.int (1 : Int32)), (.int p2)])) (fun _ k => XS.iconst X0.here hx rfl (hb hby at_26) k) ?_
    refine own_st (t' := s₁.setTop (mkF m 28 #[.val (.int p1), .val (.int p2), .val (.int xx), .unset, .unset, .unset] [(.int (p2 &&& (1 : Int32)))])) (fun _ k => XS.iand X0.here hx rfl (hb hby at_27) rfl k) ?_
    by_cases c28_15 : (p2 &&& (1 : Int32)) = (0 : Int32)
    · refine own_st (t' := s₁.setTop (mkF m 35 #[.val (.int p1), .val (.int p2), .val (.int xx), .unset, .unset, .unset] [])) (fun _ k => XS.ifYes X0.here hx rfl (pc0 := 28) (pc' := 35) rfl (hb hby at_28) rfl ((if0 _ _).trans (teq c28_15).1) (by decide) (by decide) k) ?_
      refine own_st (t' := s₁.setTop (mkF m 36 #[.val (.int p1), .val (.int p2), .val (.int xx), .unset, .unset, .unset] [(.int (0 : Int32))])) (fun _ k => XS.iconst X0.here hx rfl (hb hby at_35) k) ?_
      exact J2 _ trivial
    · refine own_st (t' := s₁.setTop (mkF m 31 #[.val (.int p1), .val (.int p2), .val (.int xx), .unset, .unset, .unset] [])) (fun _ k => XS.ifNo X0.here hx rfl (hb hby at_28) rfl ((if0 _ _).trans (feq c28_15).1) k) ?_
      refine own_st (t' := s₁.setTop (mkF m 32 #[.val (.int p1), .val (.int p2), .val (.int xx), .unset, .unset, .unset] [(.int (1 : Int32))])) (fun _ k => XS.iconst X0.here hx rfl (hb hby at_31) k) ?_
      refine own_st (t' := s₁.setTop (mkF m 36 #[.val (.int p1), .val (.int p2), .val (.int xx), .unset, .unset, .unset] [(.int (1 : Int32))])) (fun _ k => XS.goto X0.here hx rfl (pc0 := 32) (pc' := 36) rfl (hb hby at_32) (by decide) (by decide) k) ?_
      exact J2 _ trivial
  refine own_st (t' := s₁.setTop (mkF m 6 #[.val (.int p1), .val (.int p2), .val (.int x0), .unset, .unset, .unset] [(.int x0)])) (fun _ k => XS.iloadN X0.here hx rfl (hb hby at_5) rfl k) ?_
  refine own_st (t' := s₁.setTop (mkF m 9 #[.val (.int p1), .val (.int p2), .val (.int x0), .unset, .unset, .unset] [(.int (5000 : Int32)), (.int x0)])) (fun _ k => XS.sipush X0.here hx rfl (hb hby at_6) k) ?_
  by_cases c9_16 : x0 < (5000 : Int32)
  · refine own_st (t' := s₁.setTop (mkF m 25 #[.val (.int p1), .val (.int p2), .val (.int x0), .unset, .unset, .unset] [])) (fun _ k => XS.icmpYes X0.here hx rfl (pc0 := 9) (pc' := 25) rfl (hb hby at_9) rfl (tlt c9_16).1 (by decide) (by decide) k) ?_
    exact J1 _ (own_x1 hx0 c9_16)
  · refine own_st (t' := s₁.setTop (mkF m 12 #[.val (.int p1), .val (.int p2), .val (.int x0), .unset, .unset, .unset] [])) (fun _ k => XS.icmpNo X0.here hx rfl (hb hby at_9) rfl (flt c9_16).1 k) ?_
    refine own_st (t' := s₁.setTop (mkF m 13 #[.val (.int p1), .val (.int p2), .val (.int x0), .unset, .unset, .unset] [(.int x0)])) (fun _ k => XS.iloadN X0.here hx rfl (hb hby at_12) rfl k) ?_
    refine own_st (t' := s₁.setTop (mkF m 16 #[.val (.int p1), .val (.int p2), .val (.int x0), .unset, .unset, .unset] [(.int (6000 : Int32)), (.int x0)])) (fun _ k => XS.sipush X0.here hx rfl (hb hby at_13) k) ?_
    by_cases c16_17 : x0 < (6000 : Int32)
    · refine own_st (t' := s₁.setTop (mkF m 19 #[.val (.int p1), .val (.int p2), .val (.int x0), .unset, .unset, .unset] [])) (fun _ k => XS.icmpNo X0.here hx rfl (hb hby at_16) rfl (tlt c16_17).2.1 k) ?_
      refine own_st (t' := s₁.setTop (mkF m 20 #[.val (.int p1), .val (.int p2), .val (.int x0), .unset, .unset, .unset] [(.int x0)])) (fun _ k => XS.iloadN X0.here hx rfl (hb hby at_19) rfl k) ?_
      refine own_st (t' := s₁.setTop (mkF m 23 #[.val (.int p1), .val (.int p2), .val (.int x0), .unset, .unset, .unset] [(.int (1000 : Int32)), (.int x0)])) (fun _ k => XS.sipush X0.here hx rfl (hb hby at_20) k) ?_
      refine own_st (t' := s₁.setTop (mkF m 24 #[.val (.int p1), .val (.int p2), .val (.int x0), .unset, .unset, .unset] [(.int (x0 + (1000 : Int32)))])) (fun _ k => XS.iadd X0.here hx rfl (hb hby at_23) rfl k) ?_
      refine own_st (t' := s₁.setTop (mkF m 25 #[.val (.int p1), .val (.int p2), .val (.int (x0 + (1000 : Int32))), .unset, .unset, .unset] [])) (fun _ k => XS.istoreN X0.here hx rfl (hb hby at_24) rfl (l' := #[.val (.int p1), .val (.int p2), .val (.int (x0 + (1000 : Int32))), .unset, .unset, .unset]) rfl k) ?_
      exact J1 _ (own_x3 hx0 c9_16 c16_17)
    · refine own_st (t' := s₁.setTop (mkF m 25 #[.val (.int p1), .val (.int p2), .val (.int x0), .unset, .unset, .unset] [])) (fun _ k => XS.icmpYes X0.here hx rfl (pc0 := 16) (pc' := 25) rfl (hb hby at_16) rfl (flt c16_17).2.1 (by decide) (by decide) k) ?_
      exact J1 _ (own_x2 hx0 c9_16 c16_17)

set_option maxRecDepth 65536 in
set_option maxHeartbeats 40000000 in
theorem comes_1 {Post : Tables → Env → Array Value → State → Outcome → State → Prop} (hpost : ∀ tb e args s v u, (limb_1_1.after args s (.returned v) u = true ∧ limb_1_2.after args s (.returned v) u = true ∧ True) → ReturnedEndW s (.returned v) u (Jvm.fieldLocs frame_1_writes args s ++ Jvm.arrayLocs frame_1_arrays args s ++ Jvm.staticLocs frame_1_statics s) 16 2176 → Post tb e args s (.returned v) u) :
    ArmFor flags0 classFile x code maxLocals ret World_1 tables_1 room_1 Calls_1 rest_1 Pre_1 Post := by
  intro l hfl _ _ p e ha hc hk s m args below hf hA hF happ hP
  obtain ⟨hcalls, hrest, hpre⟩ := hP
  obtain ⟨-, -, -, hnamed, -, -, -, hat⟩ := (Spec.applies_iff hf).mp happ
  obtain ⟨hg, hn⟩ := and_e (Cond.before_iff.mp (show (Jvm.Cond.and given_1 narrow_1).before args s = true from hpre))
  obtain ⟨hcnt, hg0⟩ := and_e hg
  obtain ⟨ga0, hg1⟩ := and_e hg0
  obtain ⟨w0, w1, rfl⟩ : ∃ w0 w1 : Value, args = #[w0, w1] := by
    have hs : args.size = 2 := by simpa [Cond.value, given_1] using hcnt
    obtain ⟨L⟩ := args
    match L, hs with
    | [w0, w1], _ => exact ⟨w0, w1, rfl⟩
  have hw := fun d (hd : d ∈ tables_1) => atoms_spec (ws := Jvm.Cond.code x code maxLocals ret :: tables_1) hat d (List.mem_cons_of_mem _ hd)
  have hfit : Fit s := fun {y c} hc i hi => by
    obtain ⟨ha, rfl⟩ := Array.getElem?_eq_some_iff.mp hc
    have q := List.all_eq_true.mp ((Array.all_eq_true_iff_forall_mem.mp hF) _ (Array.getElem_mem ha)) i (List.mem_range.mpr hi)
    simpa [Array.getElem?_eq_getElem hi] using q
  obtain ⟨hsets, hown0⟩ := atoms_of _ (rest_1_c_eq ▸ (show rest_1_c.before _ s = true from hrest))
  have hr0 := Cond.before_iff.mp hown0
  obtain ⟨i0, ei0⟩ := is_v ga0
  obtain rfl : w0 = (.int i0) := Option.some.inj ei0
  obtain ⟨i1, ei1⟩ := is_v hg1
  obtain rfl : w1 = (.int i1) := Option.some.inj ei1
  obtain ⟨wE, eE, SE, EE⟩ := own_enum (Cond.before_iff.mp (hsets _ (List.mem_of_getElem? (i := 2) rfl))) (Or.inl (hsets _ (List.mem_of_getElem? (i := 1) rfl)))
  have FE := Fld.start (own_ord eE (Cond.before_iff.mp (hsets _ (List.mem_of_getElem? (i := 6) rfl))))
  obtain ⟨n, o, h1, h2, h3, _, L, rfl, ⟨rfl, N⟩, hq⟩ := own_rm0 l s _ hw tables_1 i0 i1 wE s.heap s.heap.size (Nat.le_refl _) SE EE FE p e ha hc hk s m _ below hf ((Spec.applies_iff_loose hf).mp happ).1 ⟨rfl, State.Warmed39.refl s, rfl⟩ trivial
  refine ⟨n, _, h1, h2, h3, hpost _ _ _ _ _ _ ⟨Cond.after_iff.mpr rfl, Cond.after_iff.mpr (eq_i res_at (Term.int_eval (1)) rfl), trivial⟩ ⟨hq.1, hq.2.1, hq.2.2.1, (hq.2.2.2.sift fun y hy => Or.inr (N y hy)).mono (by decide) (by decide)⟩⟩
theorem main_1_1 : Claimed_1_1 := comes_1 fun _ _ _ _ _ _ h hF => ⟨h.1, hF⟩
theorem main_1_2 : Claimed_1_2 := comes_1 fun _ _ _ _ _ _ h hF => ⟨h.2.1, hF⟩
end Jvm.Pilot.@@N@@
namespace Jvm.Pilot.@@N@@
open Jvm Jvm.ClassFile Sem Op Lib Jvm.Free Jvm.Stand Jvm.Pilot.@@N@@.Jvm.D
/-! MADE BY PROGRAM (witnessworld.py) out of the Statement's table words and the real class files: 24 classes; the members and pool entries that the words name. The judged class is class 1, her method 1. -/
namespace start1
open Jvm.ClassFile
def u (s : String) : CpInfo := .utf8 (stringToUtf16 s)
/-- a pool by its gaps: so many unusable entries, then the entry; so many at the end -/
def gap : Nat → List CpInfo → List CpInfo
  | 0, r => r
  | n + 1, r => .unusable :: gap n r
def poolList (es : List (Nat × CpInfo)) (last : Nat) : List CpInfo := es.foldr (fun e r => gap e.1 (e.2 :: r)) (gap last [])
def pool (es : List (Nat × CpInfo)) (last : Nat) : Array CpInfo := ⟨poolList es last⟩
def fileOf (pool : Array CpInfo) (this : Nat) (attrs : Array Attribute := #[]) (ms : Array MethodInfo := #[]) (fl : Nat := 33) (sup : Nat := 0) (ifs : Array Nat := #[]) (fds : Array FieldInfo := #[]) : ClassFile where
  minorVersion := 0
  majorVersion := 65
  constantPool := pool
  accessFlags := fl
  thisClass := this
  superClass := sup
  interfaces := ifs
  fields := fds
  methods := ms
  attributes := attrs
def plain (name : String) (sup : Option ClassId) : Class where
  name := name
  kind := .ordinary
  loader := none
  accessFlags := 33
  super := sup
  interfaces := #[]
  cf := none
  fields := #[]
  methods := #[]
  instanceTypes := #[]
  staticTypes := #[]
  resolved := #[]
  callSites := []
  init := .initialized
  statics := none
  mirror := none

def pool0 : Array CpInfo := pool [(5, u "<init>"), (0, u "()V"), (1, .class_ 10), (1, u "java/lang/Object")] 113

def k0c0 : Code := { maxStack := 0, maxLocals := 1, code := object_method_1_code, exceptionTable := #[], attributes := #[] }
def k0m0 : Method := { name := "<init>", desc := "()V", sig := { parameters := [], returnType := none }, accessFlags := 1, code := some k0c0 }
/-- java/lang/Object -/
def k0 : Class := { plain "java/lang/Object" none with
  accessFlags := 33
  interfaces := #[]
  cf := some (fileOf pool0 8 #[] #[{ accessFlags := 1, nameIndex := 5, descriptorIndex := 6, attributes := #[] }] 33 0 #[] #[])
  fields := #[]
  methods := #[k0m0]
  instanceTypes := #[]
  staticTypes := #[]
  resolved := Array.replicate 124 none
  statics := none }

def pool1 : Array CpInfo := pool [(2, .class_ 4), (1, u "java/lang/Object"), (0, u "<init>"), (0, u "()V"), (0, .integer 2147483647), (0, .class_ 9), (0, u "com/example/civipay/civipay/model/Deduction"), (0, .string 11), (0, u "c"), (0, .string 13), (0, u "n"), (0, .interfaceMethodref 15 16), (0, .class_ 17), (0, .nameAndType 18 19), (0, u "java/util/Set"), (0, u "of"), (0, u "()Ljava/util/Set;"), (0, .methodref 8 21), (0, .nameAndType 5 22), (0, u "(Ljava/lang/String;Ljava/lang/String;ILjava/util/Set;Z)V"), (0, .methodref 8 24), (0, .nameAndType 25 26), (0, u "isBeforeTaxes"), (0, u "()Z"), (0, .methodref 8 28), (0, .nameAndType 29 30), (0, u "priority"), (0, u "()I"), (0, .class_ 32), (0, u "com/example/civipay/civipay/model/DeductionIsBeforeTaxesPinLaw"), (2, u "law"), (0, u "(II)Z")] 3

def k1m0 : Method := { name := "<init>", desc := "()V", sig := { parameters := [], returnType := none }, accessFlags := 1, code := none }
def k1c1 : Code := { maxStack := 7, maxLocals := 6, code := code, exceptionTable := #[], attributes := #[] }
def k1m1 : Method := { name := "law", desc := "(II)Z", sig := { parameters := [.int, .int], returnType := some .boolean }, accessFlags := 9, code := some k1c1 }
/-- com/example/civipay/civipay/model/DeductionIsBeforeTaxesPinLaw -/
def k1 : Class := { plain "com/example/civipay/civipay/model/DeductionIsBeforeTaxesPinLaw" (some 0) with
  accessFlags := 49
  interfaces := #[]
  cf := some (fileOf pool1 31 #[] #[{ accessFlags := 1, nameIndex := 5, descriptorIndex := 6, attributes := #[] }, { accessFlags := 9, nameIndex := 35, descriptorIndex := 36, attributes := #[] }] 49 2 #[] #[])
  fields := #[]
  methods := #[k1m0, k1m1]
  instanceTypes := #[]
  staticTypes := #[]
  resolved := Array.replicate 40 none
  statics := none }

def pool2 : Array CpInfo := pool [(1, .methodref 2 3), (0, .class_ 4), (0, .nameAndType 5 6), (0, u "java/lang/Object"), (0, u "<init>"), (0, u "()V"), (0, .class_ 8), (0, u "java/lang/Record")] 13

def k2c0 : Code := { maxStack := 1, maxLocals := 1, code := jdk_30_method_1_code, exceptionTable := #[], attributes := #[] }
def k2m0 : Method := { name := "<init>", desc := "()V", sig := { parameters := [], returnType := none }, accessFlags := 4, code := some k2c0 }
/-- java/lang/Record -/
def k2 : Class := { plain "java/lang/Record" (some 0) with
  accessFlags := 1057
  interfaces := #[]
  cf := some (fileOf pool2 7 #[] #[{ accessFlags := 4, nameIndex := 5, descriptorIndex := 6, attributes := #[] }] 1057 2 #[] #[])
  fields := #[]
  methods := #[k2m0]
  instanceTypes := #[]
  staticTypes := #[]
  resolved := Array.replicate 22 none
  statics := none }

def pool3 : Array CpInfo := pool [(1, .methodref 2 3), (0, .class_ 4), (0, .nameAndType 5 6), (0, u "java/lang/Record"), (0, u "<init>"), (0, u "()V"), (0, .methodref 8 9), (0, .class_ 10), (0, .nameAndType 11 12), (0, u "com/example/civipay/civipay/model/Deduction"), (0, u "isPriority"), (0, u "(I)Z"), (9, .interfaceMethodref 23 24), (0, .class_ 25), (0, .nameAndType 26 27), (0, u "java/util/Set"), (0, u "isEmpty"), (0, u "()Z"), (2, .interfaceMethodref 23 31), (0, .nameAndType 32 33), (0, u "copyOf"), (0, u "(Ljava/util/Collection;)Ljava/util/Set;"), (0, .fieldref 8 35), (0, .nameAndType 36 37), (0, u "code"), (0, u "Ljava/lang/String;"), (0, .fieldref 8 39), (0, .nameAndType 40 37), (0, u "name"), (0, .fieldref 8 42), (0, .nameAndType 43 44), (0, u "priority"), (0, u "I"), (0, .fieldref 8 46), (0, .nameAndType 47 48), (0, u "reduces"), (0, u "Ljava/util/Set;"), (0, .fieldref 8 50), (0, .nameAndType 51 52), (0, u "keepsArrears"), (0, u "Z"), (2, u "(Ljava/lang/String;Ljava/lang/String;ILjava/util/Set;Z)V"), (14, u "TAXES_FROM"), (2, u "AFTER_TAXES_FROM"), (10, u "isBeforeTaxes"), (1, u "()I")] 35

def k3c0 : Code := { maxStack := 3, maxLocals := 6, code := prog_21_method_1_code, exceptionTable := #[], attributes := #[] }
def k3m0 : Method := { name := "<init>", desc := "(Ljava/lang/String;Ljava/lang/String;ILjava/util/Set;Z)V", sig := { parameters := [(.object "java/lang/String"), (.object "java/lang/String"), .int, (.object "java/util/Set"), .boolean], returnType := none }, accessFlags := 1, code := some k3c0 }
def k3c1 : Code := { maxStack := 2, maxLocals := 1, code := prog_21_method_3_code, exceptionTable := #[], attributes := #[] }
def k3m1 : Method := { name := "isPriority", desc := "(I)Z", sig := { parameters := [.int], returnType := some .boolean }, accessFlags := 9, code := some k3c1 }
def k3c2 : Code := { maxStack := 2, maxLocals := 1, code := prog_21_method_4_code, exceptionTable := #[], attributes := #[] }
def k3m2 : Method := { name := "isBeforeTaxes", desc := "()Z", sig := { parameters := [], returnType := some .boolean }, accessFlags := 1, code := some k3c2 }
def k3c3 : Code := { maxStack := 1, maxLocals := 1, code := prog_21_method_10_code, exceptionTable := #[], attributes := #[] }
def k3m3 : Method := { name := "priority", desc := "()I", sig := { parameters := [], returnType := some .int }, accessFlags := 1, code := some k3c3 }
/-- com/example/civipay/civipay/model/Deduction -/
def k3 : Class := { plain "com/example/civipay/civipay/model/Deduction" (some 2) with
  accessFlags := 49
  interfaces := #[]
  cf := some (fileOf pool3 8 #[] #[{ accessFlags := 1, nameIndex := 5, descriptorIndex := 55, attributes := #[] }, { accessFlags := 9, nameIndex := 11, descriptorIndex := 12, attributes := #[] }, { accessFlags := 1, nameIndex := 84, descriptorIndex := 27, attributes := #[] }, { accessFlags := 1, nameIndex := 43, descriptorIndex := 86, attributes := #[] }] 49 2 #[] #[{ accessFlags := 18, nameIndex := 36, descriptorIndex := 37, attributes := #[] }, { accessFlags := 18, nameIndex := 40, descriptorIndex := 37, attributes := #[] }, { accessFlags := 18, nameIndex := 43, descriptorIndex := 44, attributes := #[] }, { accessFlags := 18, nameIndex := 47, descriptorIndex := 48, attributes := #[] }, { accessFlags := 18, nameIndex := 51, descriptorIndex := 52, attributes := #[] }, { accessFlags := 25, nameIndex := 70, descriptorIndex := 44, attributes := #[] }, { accessFlags := 25, nameIndex := 73, descriptorIndex := 44, attributes := #[] }])
  fields := #[{ name := "code", type := (.object "java/lang/String"), accessFlags := 18, slot := 0, constantValue := 0 }, { name := "name", type := (.object "java/lang/String"), accessFlags := 18, slot := 1, constantValue := 0 }, { name := "priority", type := .int, accessFlags := 18, slot := 2, constantValue := 0 }, { name := "reduces", type := (.object "java/util/Set"), accessFlags := 18, slot := 3, constantValue := 0 }, { name := "keepsArrears", type := .boolean, accessFlags := 18, slot := 4, constantValue := 0 }, { name := "TAXES_FROM", type := .int, accessFlags := 25, slot := 0, constantValue := 0 }, { name := "AFTER_TAXES_FROM", type := .int, accessFlags := 25, slot := 1, constantValue := 0 }]
  methods := #[k3m0, k3m1, k3m2, k3m3]
  instanceTypes := #[(.object "java/lang/String"), (.object "java/lang/String"), .int, (.object "java/util/Set"), .boolean]
  staticTypes := #[.int, .int]
  resolved := Array.replicate 122 none
  statics := none }

def pool4 : Array CpInfo := pool [(1, .class_ 2), (0, u "java/io/Serializable"), (0, .class_ 4), (0, u "java/lang/Object")] 2

/-- java/io/Serializable -/
def k4 : Class := { plain "java/io/Serializable" (some 0) with
  accessFlags := 1537
  interfaces := #[]
  cf := some (fileOf pool4 1 #[] #[] 1537 3 #[] #[])
  fields := #[]
  methods := #[]
  instanceTypes := #[]
  staticTypes := #[]
  resolved := Array.replicate 7 none
  statics := none }

def pool5 : Array CpInfo := pool [(1, .class_ 2), (0, u "java/lang/Comparable"), (0, .class_ 4), (0, u "java/lang/Object")] 7

/-- java/lang/Comparable -/
def k5 : Class := { plain "java/lang/Comparable" (some 0) with
  accessFlags := 1537
  interfaces := #[]
  cf := some (fileOf pool5 1 #[] #[] 1537 3 #[] #[])
  fields := #[]
  methods := #[]
  instanceTypes := #[]
  staticTypes := #[]
  resolved := Array.replicate 12 none
  statics := none }

def pool6 : Array CpInfo := pool [(2, .class_ 4), (1, u "java/lang/CharSequence"), (42, .class_ 48), (0, u "java/lang/CharSequence$1CodePointIterator"), (10, .class_ 60), (0, u "java/lang/CharSequence$1CharIterator"), (5, .class_ 67), (0, u "java/lang/Object")] 63

/-- java/lang/CharSequence -/
def k6 : Class := { plain "java/lang/CharSequence" (some 0) with
  accessFlags := 1537
  interfaces := #[]
  cf := some (fileOf pool6 2 #[.nestMembers #[47, 59]] #[] 1537 66 #[] #[])
  fields := #[]
  methods := #[]
  instanceTypes := #[]
  staticTypes := #[]
  resolved := Array.replicate 131 none
  statics := none }

def pool7 : Array CpInfo := pool [(1, .class_ 2), (0, u "java/lang/constant/Constable"), (0, .class_ 4), (0, u "java/lang/Object")] 6

/-- java/lang/constant/Constable -/
def k7 : Class := { plain "java/lang/constant/Constable" (some 0) with
  accessFlags := 1537
  interfaces := #[]
  cf := some (fileOf pool7 1 #[] #[] 1537 3 #[] #[])
  fields := #[]
  methods := #[]
  instanceTypes := #[]
  staticTypes := #[]
  resolved := Array.replicate 11 none
  statics := none }

def pool8 : Array CpInfo := pool [(1, .class_ 2), (0, u "java/lang/constant/ConstantDesc"), (0, .class_ 4), (0, u "java/lang/Object")] 32

/-- java/lang/constant/ConstantDesc -/
def k8 : Class := { plain "java/lang/constant/ConstantDesc" (some 0) with
  accessFlags := 1537
  interfaces := #[]
  cf := some (fileOf pool8 1 #[] #[] 1537 3 #[] #[])
  fields := #[]
  methods := #[]
  instanceTypes := #[]
  staticTypes := #[]
  resolved := Array.replicate 37 none
  statics := none }

def pool9 : Array CpInfo := pool [(2, .class_ 4), (1, u "java/lang/Object"), (0, u "<init>"), (0, u "()V"), (3, .class_ 12), (1, u "java/lang/String"), (0, u "value"), (0, u "[B"), (2, u "coder"), (0, u "B"), (2, u "hash"), (0, u "I"), (2, u "hashIsZero"), (0, u "Z"), (13, u "COMPACT_STRINGS"), (534, .class_ 576), (0, u "java/lang/CharSequence"), (22, u "CASE_INSENSITIVE_ORDER"), (0, u "Ljava/util/Comparator;"), (500, u "serialPersistentFields"), (0, u "[Ljava/io/ObjectStreamField;"), (0, .class_ 1104), (0, u "java/lang/String$CaseInsensitiveComparator"), (1, .class_ 1107), (0, u "java/io/Serializable"), (0, .class_ 1109), (0, u "java/lang/Comparable"), (0, .class_ 1111), (0, u "java/lang/constant/Constable"), (0, .class_ 1113), (0, u "java/lang/constant/ConstantDesc"), (2, u "serialVersionUID"), (0, u "J"), (3, u "REPL"), (0, u "C"), (2, u "LATIN1"), (1, u "UTF16")] 323

def k9m0 : Method := { name := "<init>", desc := "()V", sig := { parameters := [], returnType := none }, accessFlags := 1, code := none }
/-- java/lang/String -/
def k9 : Class := { plain "java/lang/String" (some 0) with
  accessFlags := 49
  interfaces := #[4, 5, 6, 7, 8]
  cf := some (fileOf pool9 10 #[.nestMembers #[1103]] #[{ accessFlags := 1, nameIndex := 5, descriptorIndex := 6, attributes := #[] }] 49 2 #[1106, 1108, 575, 1110, 1112] #[{ accessFlags := 18, nameIndex := 13, descriptorIndex := 14, attributes := #[] }, { accessFlags := 18, nameIndex := 17, descriptorIndex := 18, attributes := #[] }, { accessFlags := 2, nameIndex := 21, descriptorIndex := 22, attributes := #[] }, { accessFlags := 2, nameIndex := 25, descriptorIndex := 26, attributes := #[] }, { accessFlags := 26, nameIndex := 1116, descriptorIndex := 1117, attributes := #[] }, { accessFlags := 24, nameIndex := 40, descriptorIndex := 26, attributes := #[] }, { accessFlags := 26, nameIndex := 1101, descriptorIndex := 1102, attributes := #[] }, { accessFlags := 26, nameIndex := 1121, descriptorIndex := 1122, attributes := #[] }, { accessFlags := 25, nameIndex := 599, descriptorIndex := 600, attributes := #[] }, { accessFlags := 24, nameIndex := 1125, descriptorIndex := 18, attributes := #[] }, { accessFlags := 24, nameIndex := 1127, descriptorIndex := 18, attributes := #[] }])
  fields := #[{ name := "value", type := (.array .byte), accessFlags := 18, slot := 0, constantValue := 0 }, { name := "coder", type := .byte, accessFlags := 18, slot := 1, constantValue := 0 }, { name := "hash", type := .int, accessFlags := 2, slot := 2, constantValue := 0 }, { name := "hashIsZero", type := .boolean, accessFlags := 2, slot := 3, constantValue := 0 }, { name := "serialVersionUID", type := .long, accessFlags := 26, slot := 0, constantValue := 0 }, { name := "COMPACT_STRINGS", type := .boolean, accessFlags := 24, slot := 1, constantValue := 0 }, { name := "serialPersistentFields", type := (.array (.object "java/io/ObjectStreamField")), accessFlags := 26, slot := 2, constantValue := 0 }, { name := "REPL", type := .char, accessFlags := 26, slot := 3, constantValue := 0 }, { name := "CASE_INSENSITIVE_ORDER", type := (.object "java/util/Comparator"), accessFlags := 25, slot := 4, constantValue := 0 }, { name := "LATIN1", type := .byte, accessFlags := 24, slot := 5, constantValue := 0 }, { name := "UTF16", type := .byte, accessFlags := 24, slot := 6, constantValue := 0 }]
  methods := #[k9m0]
  instanceTypes := #[(.array .byte), .byte, .int, .boolean]
  staticTypes := #[.long, .boolean, (.array (.object "java/io/ObjectStreamField")), .char, (.object "java/util/Comparator"), .byte, .byte]
  resolved := Array.replicate 1451 none
  statics := none }

def pool10 : Array CpInfo := pool [(8, .class_ 10), (1, u "java/lang/Iterable"), (24, .class_ 36), (0, u "java/lang/Object")] 25

/-- java/lang/Iterable -/
def k10 : Class := { plain "java/lang/Iterable" (some 0) with
  accessFlags := 1537
  interfaces := #[]
  cf := some (fileOf pool10 8 #[] #[] 1537 35 #[] #[])
  fields := #[]
  methods := #[]
  instanceTypes := #[]
  staticTypes := #[]
  resolved := Array.replicate 62 none
  statics := none }

def pool11 : Array CpInfo := pool [(10, .class_ 12), (1, u "java/util/Collection"), (47, .class_ 61), (0, u "java/lang/Object"), (0, .class_ 63), (0, u "java/lang/Iterable")] 51

/-- java/util/Collection -/
def k11 : Class := { plain "java/util/Collection" (some 0) with
  accessFlags := 1537
  interfaces := #[10]
  cf := some (fileOf pool11 10 #[] #[] 1537 60 #[62] #[])
  fields := #[]
  methods := #[]
  instanceTypes := #[]
  staticTypes := #[]
  resolved := Array.replicate 115 none
  statics := none }

def pool12 : Array CpInfo := pool [(9, .fieldref 10 11), (0, .class_ 12), (0, .nameAndType 13 14), (0, u "java/util/ImmutableCollections"), (0, u "EMPTY_SET"), (0, u "Ljava/util/ImmutableCollections$SetN;"), (11, .class_ 27), (0, u "java/lang/Object"), (3, .class_ 32), (0, u "java/util/ImmutableCollections$AbstractImmutableSet"), (0, .class_ 34), (0, u "java/util/Set"), (1, .class_ 38), (1, u "java/util/Collection"), (0, u "isEmpty"), (0, u "()Z"), (2, u "of"), (0, u "()Ljava/util/Set;"), (86, u "copyOf"), (0, u "(Ljava/util/Collection;)Ljava/util/Set;")] 11

def k12m0 : Method := { name := "isEmpty", desc := "()Z", sig := { parameters := [], returnType := some .boolean }, accessFlags := 1025, code := none }
def k12c1 : Code := { maxStack := 1, maxLocals := 0, code := jdk_96_method_17_code, exceptionTable := #[], attributes := #[] }
def k12m1 : Method := { name := "of", desc := "()Ljava/util/Set;", sig := { parameters := [], returnType := some (.object "java/util/Set") }, accessFlags := 9, code := some k12c1 }
def k12c2 : Code := { maxStack := 3, maxLocals := 1, code := jdk_96_method_29_code, exceptionTable := #[], attributes := #[] }
def k12m2 : Method := { name := "copyOf", desc := "(Ljava/util/Collection;)Ljava/util/Set;", sig := { parameters := [(.object "java/util/Collection")], returnType := some (.object "java/util/Set") }, accessFlags := 9, code := some k12c2 }
/-- java/util/Set -/
def k12 : Class := { plain "java/util/Set" (some 0) with
  accessFlags := 1537
  interfaces := #[11]
  cf := some (fileOf pool12 33 #[] #[{ accessFlags := 1025, nameIndex := 39, descriptorIndex := 40, attributes := #[] }, { accessFlags := 9, nameIndex := 43, descriptorIndex := 44, attributes := #[] }, { accessFlags := 9, nameIndex := 131, descriptorIndex := 132, attributes := #[] }] 1537 26 #[36] #[])
  fields := #[]
  methods := #[k12m0, k12m1, k12m2]
  instanceTypes := #[]
  staticTypes := #[]
  resolved := Array.replicate 144 none
  statics := none }

def pool13 : Array CpInfo := pool [(2, .class_ 4), (1, u "java/lang/Object"), (0, u "<init>"), (0, u "()V"), (3, .class_ 11), (0, u "java/util/ImmutableCollections$List12"), (0, .class_ 13), (0, u "java/util/ImmutableCollections$ListN"), (3, u "Z"), (29, .class_ 49), (1, u "java/util/ImmutableCollections"), (0, u "$assertionsDisabled"), (5, u "[Ljava/lang/Object;"), (5, u "EMPTY_LIST"), (0, u "Ljava/util/ImmutableCollections$ListN;"), (8, u "EMPTY_LIST_NULLS"), (22, u "SALT32L"), (0, u "J"), (2, u "REVERSE"), (6, u "archivedObjects"), (2, u "EMPTY"), (0, u "Ljava/lang/Object;"), (0, .class_ 112), (0, u "java/util/ImmutableCollections$SetN"), (5, u "EMPTY_SET"), (0, u "Ljava/util/ImmutableCollections$SetN;"), (0, .class_ 121), (0, u "java/util/ImmutableCollections$MapN"), (3, u "EMPTY_MAP"), (0, u "Ljava/util/ImmutableCollections$MapN;"), (4, u "EXPAND_FACTOR"), (0, u "I"), (36, .class_ 170), (0, u "java/util/ImmutableCollections$MapN$MapNIterator"), (0, .class_ 172), (0, u "java/util/ImmutableCollections$MapN$1"), (0, .class_ 174), (0, u "java/util/ImmutableCollections$Map1"), (0, .class_ 176), (0, u "java/util/ImmutableCollections$AbstractImmutableMap"), (0, .class_ 178), (0, u "java/util/ImmutableCollections$SetN$SetNIterator"), (0, .class_ 180), (0, u "java/util/ImmutableCollections$Set12"), (0, .class_ 182), (0, u "java/util/ImmutableCollections$Set12$1"), (0, .class_ 184), (0, u "java/util/ImmutableCollections$AbstractImmutableSet"), (0, .class_ 186), (0, u "java/util/ImmutableCollections$SubList"), (0, .class_ 188), (0, u "java/util/ImmutableCollections$ListItr"), (0, .class_ 190), (0, u "java/util/ImmutableCollections$AbstractImmutableList"), (0, .class_ 192), (0, u "java/util/ImmutableCollections$AbstractImmutableCollection"), (0, .class_ 194), (0, u "java/util/ImmutableCollections$Access"), (0, .class_ 196), (0, u "java/util/ImmutableCollections$Access$1")] 16

def k13m0 : Method := { name := "<init>", desc := "()V", sig := { parameters := [], returnType := none }, accessFlags := 2, code := none }
/-- java/util/ImmutableCollections -/
def k13 : Class := { plain "java/util/ImmutableCollections" (some 0) with
  accessFlags := 32
  interfaces := #[]
  cf := some (fileOf pool13 47 #[.nestMembers #[120, 169, 171, 173, 175, 111, 177, 179, 181, 183, 12, 10, 185, 187, 189, 191, 193, 195]] #[{ accessFlags := 2, nameIndex := 5, descriptorIndex := 6, attributes := #[] }] 32 2 #[] #[{ accessFlags := 26, nameIndex := 95, descriptorIndex := 96, attributes := #[] }, { accessFlags := 26, nameIndex := 99, descriptorIndex := 17, attributes := #[] }, { accessFlags := 10, nameIndex := 106, descriptorIndex := 56, attributes := #[] }, { accessFlags := 26, nameIndex := 109, descriptorIndex := 110, attributes := #[] }, { accessFlags := 24, nameIndex := 62, descriptorIndex := 63, attributes := #[] }, { accessFlags := 24, nameIndex := 72, descriptorIndex := 63, attributes := #[] }, { accessFlags := 24, nameIndex := 118, descriptorIndex := 119, attributes := #[] }, { accessFlags := 24, nameIndex := 125, descriptorIndex := 126, attributes := #[] }, { accessFlags := 24, nameIndex := 131, descriptorIndex := 132, attributes := #[] }, { accessFlags := 4120, nameIndex := 50, descriptorIndex := 17, attributes := #[] }])
  fields := #[{ name := "SALT32L", type := .long, accessFlags := 26, slot := 0, constantValue := 0 }, { name := "REVERSE", type := .boolean, accessFlags := 26, slot := 1, constantValue := 0 }, { name := "archivedObjects", type := (.array (.object "java/lang/Object")), accessFlags := 10, slot := 2, constantValue := 0 }, { name := "EMPTY", type := (.object "java/lang/Object"), accessFlags := 26, slot := 3, constantValue := 0 }, { name := "EMPTY_LIST", type := (.object "java/util/ImmutableCollections$ListN"), accessFlags := 24, slot := 4, constantValue := 0 }, { name := "EMPTY_LIST_NULLS", type := (.object "java/util/ImmutableCollections$ListN"), accessFlags := 24, slot := 5, constantValue := 0 }, { name := "EMPTY_SET", type := (.object "java/util/ImmutableCollections$SetN"), accessFlags := 24, slot := 6, constantValue := 0 }, { name := "EMPTY_MAP", type := (.object "java/util/ImmutableCollections$MapN"), accessFlags := 24, slot := 7, constantValue := 0 }, { name := "EXPAND_FACTOR", type := .int, accessFlags := 24, slot := 8, constantValue := 0 }, { name := "$assertionsDisabled", type := .boolean, accessFlags := 4120, slot := 9, constantValue := 0 }]
  methods := #[k13m0]
  instanceTypes := #[]
  staticTypes := #[.long, .boolean, (.array (.object "java/lang/Object")), (.object "java/lang/Object"), (.object "java/util/ImmutableCollections$ListN"), (.object "java/util/ImmutableCollections$ListN"), (.object "java/util/ImmutableCollections$SetN"), (.object "java/util/ImmutableCollections$MapN"), .int, .boolean]
  resolved := Array.replicate 213 none
  statics := some 0 }

def pool14 : Array CpInfo := pool [(2, .class_ 4), (1, u "java/lang/Object"), (0, u "<init>"), (0, u "()V"), (1, .class_ 10), (1, u "java/util/AbstractCollection"), (66, .class_ 78), (0, u "java/util/Collection")] 81

def k14m0 : Method := { name := "<init>", desc := "()V", sig := { parameters := [], returnType := none }, accessFlags := 4, code := none }
/-- java/util/AbstractCollection -/
def k14 : Class := { plain "java/util/AbstractCollection" (some 0) with
  accessFlags := 1057
  interfaces := #[11]
  cf := some (fileOf pool14 8 #[] #[{ accessFlags := 4, nameIndex := 5, descriptorIndex := 6, attributes := #[] }] 1057 2 #[77] #[])
  fields := #[]
  methods := #[k14m0]
  instanceTypes := #[]
  staticTypes := #[]
  resolved := Array.replicate 160 none
  statics := none }

def pool15 : Array CpInfo := pool [(2, .class_ 4), (1, u "java/util/AbstractCollection"), (0, u "<init>"), (0, u "()V"), (1, .class_ 10), (1, u "java/util/ImmutableCollections"), (2, .class_ 14), (0, u "java/util/ImmutableCollections$AbstractImmutableCollection")] 41

def k15m0 : Method := { name := "<init>", desc := "()V", sig := { parameters := [], returnType := none }, accessFlags := 0, code := none }
/-- java/util/ImmutableCollections$AbstractImmutableCollection -/
def k15 : Class := { plain "java/util/ImmutableCollections$AbstractImmutableCollection" (some 14) with
  accessFlags := 1056
  interfaces := #[]
  cf := some (fileOf pool15 13 #[.nestHost 8] #[{ accessFlags := 0, nameIndex := 5, descriptorIndex := 6, attributes := #[] }] 1056 2 #[] #[])
  fields := #[]
  methods := #[k15m0]
  instanceTypes := #[]
  staticTypes := #[]
  resolved := Array.replicate 56 none
  statics := none }

def pool16 : Array CpInfo := pool [(2, .class_ 4), (1, u "java/util/ImmutableCollections$AbstractImmutableCollection"), (0, u "<init>"), (0, u "()V"), (0, .class_ 8), (0, u "java/util/Set"), (7, .class_ 17), (0, u "java/util/ImmutableCollections$AbstractImmutableSet"), (43, .class_ 62), (0, u "java/util/ImmutableCollections")] 3

def k16m0 : Method := { name := "<init>", desc := "()V", sig := { parameters := [], returnType := none }, accessFlags := 0, code := none }
/-- java/util/ImmutableCollections$AbstractImmutableSet -/
def k16 : Class := { plain "java/util/ImmutableCollections$AbstractImmutableSet" (some 15) with
  accessFlags := 1056
  interfaces := #[12]
  cf := some (fileOf pool16 16 #[.nestHost 61] #[{ accessFlags := 0, nameIndex := 5, descriptorIndex := 6, attributes := #[] }] 1056 2 #[7] #[])
  fields := #[]
  methods := #[k16m0]
  instanceTypes := #[]
  staticTypes := #[]
  resolved := Array.replicate 66 none
  statics := none }

def pool17 : Array CpInfo := pool [(1, .class_ 2), (0, u "java/util/ImmutableCollections"), (1, .class_ 6), (1, u "java/util/ImmutableCollections$AbstractImmutableSet"), (2, .fieldref 10 11), (0, .class_ 12), (0, .nameAndType 13 14), (0, u "java/util/ImmutableCollections$SetN"), (0, u "size"), (0, u "I"), (4, u "elements"), (0, u "[Ljava/lang/Object;"), (86, .class_ 108), (0, u "java/io/Serializable"), (21, u "isEmpty"), (0, u "()Z")] 36

def k17c0 : Code := { maxStack := 1, maxLocals := 1, code := jdk_132_method_3_code, exceptionTable := #[], attributes := #[] }
def k17m0 : Method := { name := "isEmpty", desc := "()Z", sig := { parameters := [], returnType := some .boolean }, accessFlags := 1, code := some k17c0 }
/-- java/util/ImmutableCollections$SetN -/
def k17 : Class := { plain "java/util/ImmutableCollections$SetN" (some 16) with
  accessFlags := 48
  interfaces := #[4]
  cf := some (fileOf pool17 10 #[.nestHost 1] #[{ accessFlags := 1, nameIndex := 130, descriptorIndex := 131, attributes := #[] }] 48 4 #[107] #[{ accessFlags := 16, nameIndex := 19, descriptorIndex := 20, attributes := #[] }, { accessFlags := 16, nameIndex := 13, descriptorIndex := 14, attributes := #[] }])
  fields := #[{ name := "elements", type := (.array (.object "java/lang/Object")), accessFlags := 16, slot := 0, constantValue := 0 }, { name := "size", type := .int, accessFlags := 16, slot := 1, constantValue := 0 }]
  methods := #[k17m0]
  instanceTypes := #[(.array (.object "java/lang/Object")), .int]
  staticTypes := #[]
  resolved := Array.replicate 168 none
  statics := none }

def pool18 : Array CpInfo := pool [(1, u "java/lang/Cloneable"), (0, .class_ 1), (0, u "java/lang/Object"), (0, .class_ 3)] 3

/-- java/lang/Cloneable -/
def k18 : Class := { plain "java/lang/Cloneable" (some 0) with
  accessFlags := 1537
  interfaces := #[]
  cf := some (fileOf pool18 2 #[] #[] 1537 4 #[] #[])
  fields := #[]
  methods := #[]
  instanceTypes := #[]
  staticTypes := #[]
  resolved := Array.replicate 8 none
  statics := none }

/-- the primitive byte -/
def k19 : Class := { plain "byte" none with kind := .primitive 'B', accessFlags := 0x411 }
/-- [B -/
def k20 : Class := { plain "[B" (some 0) with kind := .array 19 .byte, interfaces := #[18, 4], accessFlags := 1041 }

/-- the primitive int -/
def k21 : Class := { plain "int" none with kind := .primitive 'I', accessFlags := 0x411 }
/-- [I -/
def k22 : Class := { plain "[I" (some 0) with kind := .array 21 .int, interfaces := #[18, 4], accessFlags := 1041 }

/-- [Ljava/lang/Object; -/
def k23 : Class := { plain "[Ljava/lang/Object;" (some 0) with kind := .array 0 (.object "java/lang/Object"), interfaces := #[18, 4], accessFlags := 1041 }

def heap : Heap := #[{ cls := 13, slots := #[.long 0, .int 0, .null, .null, .null, .null, .ref 2, .null, .int 0, .int 0], vm := .statics 13 },
  { cls := 23, slots := #[], vm := .none },
  { cls := 17, slots := #[.ref 1, .int 0], vm := .none }]
def classes : Array Class := #[k0, k1, k2, k3, k4, k5, k6, k7, k8, k9, k10, k11, k12, k13, k14, k15, k16, k17, k18, k19, k20, k21, k22, k23]
def interned : List (Array UInt16 × Addr) := []
def slotsUsed : Nat := 12
def theMethod : MethodId := ⟨1, 1⟩
def args0 : Array Value := #[.int 5, .int 3]
def aboutOver (below : List Frame) : State where
  vm := { classes := classes, interned := interned.toArray }
  heap := heap
  slotsUsed := slotsUsed
  threads := #[{ frames := .invoking theMethod args0 :: below }]
def below0 : List Frame := [.native { method := ⟨0, 0⟩, args := #[] }]
def about1 : State := aboutOver below0
def p0 : Program := .bare "" "" ""
def e0 : Env := launch0.env 0 0 0
theorem w_frames : about1.frames = Frame.invoking theMethod args0 :: below0 := rfl
set_option maxRecDepth 65536 in
theorem w_args : argsFit about1.vm theMethod args0 = true := by decide +kernel
set_option maxRecDepth 65536 in
theorem w_heap : heapFits about1 = true := by decide +kernel
set_option maxRecDepth 65536 in
theorem w_runnable : about1.curStatus? = some .runnable := by decide +kernel
set_option maxRecDepth 65536 in
theorem w_alone : about1.alone = true := by decide +kernel
set_option maxRecDepth 65536 in
theorem w_named : about1.methodNamed? x = some theMethod := by decide +kernel
set_option maxRecDepth 65536 in
theorem w_hears : about1.hears theMethod below0 = true := by decide +kernel
set_option maxRecDepth 65536 in
theorem w_ripe : about1.ripe theMethod args0 below0 = true := by decide +kernel
theorem w_running : about1.status = .running := rfl
set_option maxRecDepth 65536 in
theorem w_room : about1.hasRoom e0.platform room_1 = true :=
  launch0.hasRoom_least _ room_1 (by decide +kernel) (by decide +kernel) (by decide +kernel) (by decide +kernel) (by decide +kernel) (by decide +kernel)
theorem allAtoms_all (ts : List Jvm.Cond) (a : Array Jvm.Value) (st : Jvm.State) : (allAtoms ts).before a st = ts.all (fun c => c.before a st) := by
  induction ts with
  | nil => rfl
  | cons c t ih =>
    show (Jvm.Cond.and c (allAtoms t)).before a st = _
    rw [Jvm.Cond.before_and, ih, List.all_cons]
def words1 : List Jvm.Cond := Jvm.Cond.code x code maxLocals ret :: tables_1
/-- a 'code' word, met by the world's own term for the bytes: nothing is compared byte by byte -/
theorem code_word {y : MethodName} {bytes : ByteArray} {mx : Nat} {rt : Option FieldType} {a : Array Value} {s : State} {m : MethodId} {meth : Method} {c : Code} (h1 : s.methodNamed? y = some m) (h2 : s.vm.method? m = some meth) (h3 : meth.code = some c) (h4 : c.code = bytes)
    (h5 : (c.maxLocals == mx && c.exceptionTable.isEmpty && decide (c.maxStack ≤ mostOperands) && decide (meth.sig.returnType = rt) && !meth.locks && decide (parseMethodDescriptor y.desc = some meth.sig)) = true) : (Jvm.Cond.code y bytes mx rt).before a s = true := by
  simp only [Bool.and_eq_true, beq_iff_eq, Bool.not_eq_true', decide_eq_true_eq] at h5
  obtain ⟨⟨⟨⟨⟨g1, g2⟩, g3⟩, g4⟩, g5⟩, g6⟩ := h5
  simp [Cond.before, Cond.holds, Cond.value, h1, h2, h3, h4, g1, g2, g3, g4, g5, g6]
def isCode : Jvm.Cond → Bool
  | .code _ _ _ _ => true
  | _ => false
theorem all_split {L : List Jvm.Cond} {P : Jvm.Cond → Bool} (h1 : L.all (fun c => isCode c || P c) = true) (h2 : ∀ c ∈ L.filter isCode, P c = true) : L.all P = true := by
  refine List.all_eq_true.mpr fun c hc => ?_
  have h := List.all_eq_true.mp h1 c hc
  rcases Bool.eq_false_or_eq_true (isCode c) with hi | hi
  · exact h2 c (List.mem_filter.mpr ⟨hc, hi⟩)
  · simpa [hi] using h
set_option maxRecDepth 65536 in
theorem w_c0 : (Jvm.Cond.code x code maxLocals ret).before args0 about1 = true := code_word (m := ⟨1, 1⟩) (meth := k1m1) (c := k1c1) (by decide +kernel) rfl rfl rfl (by decide +kernel)
set_option maxRecDepth 65536 in
theorem w_c1 : (Jvm.Cond.code ({ cls := "java/util/Set", name := "of", desc := "()Ljava/util/Set;" } : Jvm.MethodName) jdk_96_method_17_code (0 : Nat) (Option.some (Jvm.ClassFile.FieldType.object "java/util/Set"))).before args0 about1 = true := code_word (m := ⟨12, 1⟩) (meth := k12m1) (c := k12c1) (by decide +kernel) rfl rfl rfl (by decide +kernel)
set_option maxRecDepth 65536 in
theorem w_c2 : (Jvm.Cond.code ({ cls := "com/example/civipay/civipay/model/Deduction", name := "<init>", desc := "(Ljava/lang/String;Ljava/lang/String;ILjava/util/Set;Z)V" } : Jvm.MethodName) prog_21_method_1_code (6 : Nat) (Option.none : Option Jvm.ClassFile.FieldType)).before args0 about1 = true := code_word (m := ⟨3, 0⟩) (meth := k3m0) (c := k3c0) (by decide +kernel) rfl rfl rfl (by decide +kernel)
set_option maxRecDepth 65536 in
theorem w_c3 : (Jvm.Cond.code ({ cls := "java/lang/Record", name := "<init>", desc := "()V" } : Jvm.MethodName) jdk_30_method_1_code (1 : Nat) (Option.none : Option Jvm.ClassFile.FieldType)).before args0 about1 = true := code_word (m := ⟨2, 0⟩) (meth := k2m0) (c := k2c0) (by decide +kernel) rfl rfl rfl (by decide +kernel)
set_option maxRecDepth 65536 in
theorem w_c4 : (Jvm.Cond.code ({ cls := "java/lang/Object", name := "<init>", desc := "()V" } : Jvm.MethodName) object_method_1_code (1 : Nat) (Option.none : Option Jvm.ClassFile.FieldType)).before args0 about1 = true := code_word (m := ⟨0, 0⟩) (meth := k0m0) (c := k0c0) (by decide +kernel) rfl rfl rfl (by decide +kernel)
set_option maxRecDepth 65536 in
theorem w_c5 : (Jvm.Cond.code ({ cls := "com/example/civipay/civipay/model/Deduction", name := "isPriority", desc := "(I)Z" } : Jvm.MethodName) prog_21_method_3_code (1 : Nat) (Option.some Jvm.ClassFile.FieldType.boolean)).before args0 about1 = true := code_word (m := ⟨3, 1⟩) (meth := k3m1) (c := k3c1) (by decide +kernel) rfl rfl rfl (by decide +kernel)
set_option maxRecDepth 65536 in
theorem w_c6 : (Jvm.Cond.code ({ cls := "java/util/Set", name := "copyOf", desc := "(Ljava/util/Collection;)Ljava/util/Set;" } : Jvm.MethodName) jdk_96_method_29_code (1 : Nat) (Option.some (Jvm.ClassFile.FieldType.object "java/util/Set"))).before args0 about1 = true := code_word (m := ⟨12, 2⟩) (meth := k12m2) (c := k12c2) (by decide +kernel) rfl rfl rfl (by decide +kernel)
set_option maxRecDepth 65536 in
theorem w_c7 : (Jvm.Cond.code ({ cls := "com/example/civipay/civipay/model/Deduction", name := "isBeforeTaxes", desc := "()Z" } : Jvm.MethodName) prog_21_method_4_code (1 : Nat) (Option.some Jvm.ClassFile.FieldType.boolean)).before args0 about1 = true := code_word (m := ⟨3, 2⟩) (meth := k3m2) (c := k3c2) (by decide +kernel) rfl rfl rfl (by decide +kernel)
set_option maxRecDepth 65536 in
theorem w_c8 : (Jvm.Cond.code ({ cls := "com/example/civipay/civipay/model/Deduction", name := "priority", desc := "()I" } : Jvm.MethodName) prog_21_method_10_code (1 : Nat) (Option.some Jvm.ClassFile.FieldType.int)).before args0 about1 = true := code_word (m := ⟨3, 3⟩) (meth := k3m3) (c := k3c3) (by decide +kernel) rfl rfl rfl (by decide +kernel)
set_option maxRecDepth 65536 in
theorem w_c9 : (Jvm.Cond.code ({ cls := "java/util/ImmutableCollections$SetN", name := "isEmpty", desc := "()Z" } : Jvm.MethodName) jdk_132_method_3_code (1 : Nat) (Option.some Jvm.ClassFile.FieldType.boolean)).before args0 about1 = true := code_word (m := ⟨17, 0⟩) (meth := k17m0) (c := k17c0) (by decide +kernel) rfl rfl rfl (by decide +kernel)
def codes1 : List Jvm.Cond := [Jvm.Cond.code x code maxLocals ret, Jvm.Cond.code ({ cls := "java/util/Set", name := "of", desc := "()Ljava/util/Set;" } : Jvm.MethodName) jdk_96_method_17_code (0 : Nat) (Option.some (Jvm.ClassFile.FieldType.object "java/util/Set")), Jvm.Cond.code ({ cls := "com/example/civipay/civipay/model/Deduction", name := "<init>", desc := "(Ljava/lang/String;Ljava/lang/String;ILjava/util/Set;Z)V" } : Jvm.MethodName) prog_21_method_1_code (6 : Nat) (Option.none : Option Jvm.ClassFile.FieldType), Jvm.Cond.code ({ cls := "java/lang/Record", name := "<init>", desc := "()V" } : Jvm.MethodName) jdk_30_method_1_code (1 : Nat) (Option.none : Option Jvm.ClassFile.FieldType), Jvm.Cond.code ({ cls := "java/lang/Object", name := "<init>", desc := "()V" } : Jvm.MethodName) object_method_1_code (1 : Nat) (Option.none : Option Jvm.ClassFile.FieldType), Jvm.Cond.code ({ cls := "com/example/civipay/civipay/model/Deduction", name := "isPriority", desc := "(I)Z" } : Jvm.MethodName) prog_21_method_3_code (1 : Nat) (Option.some Jvm.ClassFile.FieldType.boolean), Jvm.Cond.code ({ cls := "java/util/Set", name := "copyOf", desc := "(Ljava/util/Collection;)Ljava/util/Set;" } : Jvm.MethodName) jdk_96_method_29_code (1 : Nat) (Option.some (Jvm.ClassFile.FieldType.object "java/util/Set")), Jvm.Cond.code ({ cls := "com/example/civipay/civipay/model/Deduction", name := "isBeforeTaxes", desc := "()Z" } : Jvm.MethodName) prog_21_method_4_code (1 : Nat) (Option.some Jvm.ClassFile.FieldType.boolean), Jvm.Cond.code ({ cls := "com/example/civipay/civipay/model/Deduction", name := "priority", desc := "()I" } : Jvm.MethodName) prog_21_method_10_code (1 : Nat) (Option.some Jvm.ClassFile.FieldType.int), Jvm.Cond.code ({ cls := "java/util/ImmutableCollections$SetN", name := "isEmpty", desc := "()Z" } : Jvm.MethodName) jdk_132_method_3_code (1 : Nat) (Option.some Jvm.ClassFile.FieldType.boolean)]
set_option maxRecDepth 65536 in
theorem codes_eq : words1.filter isCode = codes1 := rfl
theorem w_codes : ∀ c ∈ words1.filter isCode, c.before args0 about1 = true := by
  rw [codes_eq]
  intro c hc
  simp only [codes1, List.mem_cons, List.not_mem_nil, or_false] at hc
  rcases hc with rfl | rfl | rfl | rfl | rfl | rfl | rfl | rfl | rfl | rfl
  · exact w_c0
  · exact w_c1
  · exact w_c2
  · exact w_c3
  · exact w_c4
  · exact w_c5
  · exact w_c6
  · exact w_c7
  · exact w_c8
  · exact w_c9
set_option maxRecDepth 65536 in
theorem w_t1 : (words1.take 24).all (fun c => isCode c || c.before args0 about1) = true := by decide +kernel
set_option maxRecDepth 65536 in
theorem w_t2 : ((words1.drop 24).take 24).all (fun c => isCode c || c.before args0 about1) = true := by decide +kernel
set_option maxRecDepth 65536 in
theorem w_t3 : ((words1.drop 24).drop 24).all (fun c => isCode c || c.before args0 about1) = true := by decide +kernel
theorem w_tables : (allAtoms (Jvm.Cond.code x code maxLocals ret :: tables_1)).before args0 about1 = true := by
  rw [allAtoms_all]
  show words1.all (fun c => c.before args0 about1) = true
  refine all_split ?_ w_codes
  rw [← List.take_append_drop 24 words1, List.all_append, w_t1, ← List.take_append_drop 24 (words1.drop 24), List.all_append, w_t2, w_t3]
  rfl
set_option maxRecDepth 65536 in
theorem w_rest : rest_1_c.before args0 about1 = true := by decide +kernel
set_option maxRecDepth 65536 in
theorem w_case : (Jvm.Cond.and given_1 narrow_1).before args0 about1 = true := by decide +kernel
theorem w_applies : (headSpec (Jvm.Cond.code x code maxLocals ret :: tables_1) room_1).applies x e0.platform about1 = true :=
  (Spec.applies_iff w_frames).mpr ⟨w_running, w_runnable, w_alone, w_named, w_hears, w_ripe, w_room, w_tables⟩
theorem atStart : AtStart classFile x code maxLocals ret World_1 tables_1 room_1 Calls_1 rest_1 Pre_1 launch0 p0 e0 about1 theMethod args0 below0 :=
  ⟨lists_1, trivial, launch0.admits_env _ _ _, launch0.least_env, fairChoices_fair.cas, fairChoices_fair.clock, w_frames, w_args, w_heap, w_applies, trivial, w_rest, w_case⟩
end start1
theorem witness_1 : WitnessClaimed_1 := ⟨start1.p0, start1.e0, start1.about1, start1.theMethod, start1.args0, start1.below0, start1.atStart⟩
end Jvm.Pilot.@@N@@
