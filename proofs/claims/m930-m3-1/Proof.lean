import JvmDerived
import JvmDerived.Pilot.@@N@@Statement
import JvmDerived.Pilot.@@N@@Code
set_option linter.unusedVariables false
set_option linter.unusedSimpArgs false
@@BLOCK:NumsL.lean.txt@@
namespace Jvm.RoadKit
open Sem ClassFile Op Lib Jvm.Stand Jvm.Free Jvm.LawKit
section New
variable {p : Program} {l : Launch} {e : Env} {R : Room} {s : State} {m : MethodId} {args : Array Value} {below : List Frame} {meth : Method} {c : Code} {T : State} {locs : List Loc} {cells slots : Nat}
theorem retI (X : Stand p l e R s m args below meth c T locs cells slots) (hx : p.tables.exec = Jvm.exec) {pc : Nat} {Ls : Array Slot} {z : Int32} {rest : List Value} (hret : meth.sig.returnType = some .int) (hd : decode c.code pc = .ok (.ireturn, 1)) {fs : List Frame}
    (hl : ∀ (f : JFrame) (acts : List Action), f.method = m → f.locked = none → f.entered = [] → (doReturn e (T.setTop f) acts (some (.int z))).1 = T.setFrames fs) : Steps p.tables e below (T.setTop (mkF m pc Ls (.int z :: rest))) (T.setFrames fs) := by
  have hm' : T.vm.method? m = some meth := X.method'
  have hn : narrow .int (.int z) = .int z := rfl
  show Steps p.tables e below (T.setTop { method := m, pc := pc, locals := Ls, stack := _ :: rest, locked := none }) _
  jvm_step X.here [X.here.top, hx, hd, hm', hret, hn]
  first | (intro acts; rw [hl _ acts rfl rfl rfl]) | rw [hl _ _ rfl rfl rfl]
  exact Steps.refl _
end New
end Jvm.RoadKit
namespace Jvm.Pilot.@@N@@
open Jvm Jvm.ClassFile Sem Op Lib Jvm.Free Jvm.Stand Jvm.LawKit Jvm.RoadKit Bundle Jvm.Pilot.@@N@@.Jvm.D
/-! the rest of a run, from the state t on: it comes to an end of which P holds -/
def own_At (p : Program) (e : Env) (below : List Frame) (P : Outcome → State → Prop) (t : State) : Prop := ∃ s₂ o, Steps p.tables e below t s₂ ∧ s₂.status = .running ∧ Ended s₂ below o ∧ P o s₂
theorem own_body {p : Program} {e : Env} {below : List Frame} {P : Outcome → State → Prop} {t : State} (h : ∀ P' : Outcome → State → Prop, (∀ o u, P o u → P' o u) → own_At p e below P' t) : own_At p e below P t := h P fun _ _ q => q
theorem own_st {p : Program} {e : Env} {below : List Frame} {P : Outcome → State → Prop} {t t' : State} (h : ∀ target, Steps p.tables e below t' target → Steps p.tables e below t target) (k : own_At p e below P t') : own_At p e below P t := by
  obtain ⟨s₂, o, h1, h2⟩ := k
  exact ⟨s₂, o, h _ h1, h2⟩
theorem own_tr {p : Program} {e : Env} {below : List Frame} {P : Outcome → State → Prop} {t t' : State} (h : Steps p.tables e below t t') (k : own_At p e below P t') : own_At p e below P t := by
  obtain ⟨s₂, o, h1, h2⟩ := k
  exact ⟨s₂, o, h.trans h1, h2⟩
def own_max (a b : Int32) : Int32 := if a < b then b else a
def own_due (r : Int32) (i : Int64) : Int64 := (((i / (r.toInt64)) * (1000000000 : Int64)) + (((i - (i / (r.toInt64)) * (r.toInt64)) * (1000000000 : Int64)) / (r.toInt64)))

theorem own_sta {s : State} {a : Array Value} {C n d : String} {z : Int32} (h : (Jvm.Cond.eq (Jvm.Term.static C n d) (Jvm.Term.int z)).value a s none s [] = some true) (hi : (Cond.initializedFor C n d).before a s = true ∨ ((Cond.initialized C).before a s = true ∧ (Cond.laysStatic C n d).before a s = true)) : Sta s s.heap C n d (.int z) := Sta.start (eqv_i rfl h) hi
theorem own_staL {s : State} {a : Array Value} {C n d : String} {z : Int64} (h : (Jvm.Cond.eq (Jvm.Term.static C n d) (Jvm.Term.long z)).value a s none s [] = some true) (hi : (Cond.initializedFor C n d).before a s = true ∨ ((Cond.initialized C).before a s = true ∧ (Cond.laysStatic C n d).before a s = true)) : Sta s s.heap C n d (.long z) := Sta.start (eqv_l rfl h) hi
theorem own_enum {s : State} {a : Array Value} {C n d K : String} (h : (Jvm.Cond.exactly (Jvm.Term.static C n d) K).value a s none s [] = some true) (hi : (Cond.initializedFor C n d).before a s = true ∨ ((Cond.initialized C).before a s = true ∧ (Cond.laysStatic C n d).before a s = true)) : ∃ r : Addr, (Jvm.Term.static C n d).eval a s none [] s = some (.ref r) ∧ Sta s s.heap C n d (.ref r) ∧ Exa s s.heap r K := by
  obtain ⟨r, c', cell, k, e1, -⟩ := Cond.exactly_spec (Cond.before_iff.mpr h)
  exact ⟨r, e1, Sta.start e1 hi, Exa.start e1 h⟩
theorem own_ord {s : State} {a : Array Value} {t : Jvm.Term} {C n d : String} {r : Addr} {z : Int32} (e : t.eval a s none [] s = some (.ref r)) (h : (Jvm.Cond.eq (Jvm.Term.field t C n d) (Jvm.Term.int z)).value a s none s [] = some true) : s.fieldOf? r C n d = some (.int z) := by
  have q := eqv_i (F := Jvm.Term.int z) rfl h
  simpa [Term.eval, e] using q
theorem own_ne {s : State} {r r' : Addr} {C n d : String} {z z' : Int32} (h : s.fieldOf? r C n d = some (.int z)) (h' : s.fieldOf? r' C n d = some (.int z')) (q : z ≠ z') : r ≠ r' := fun e => by
  subst e
  exact q (Value.int.inj (Option.some.inj (h.symm.trans h')))

theorem own_staK {Z : State} {h h' : Heap} {C n d B : String} {w : Value} {x : Addr} (F : Sta Z h C n d w) (K : Keep h h' [x]) (E : Exa Z h x B) : Sta Z h' C n d w := by
  obtain ⟨cf, i, k, f, st, cell, h1, h2, h3, h4, h5, h6, h7⟩ := F
  obtain ⟨cb, kb, g1, -, -, g4, -⟩ := E
  have ne : st ≠ x := fun q => by
    subst q
    cases h5.symm.trans g1
    rw [h6] at g4; cases g4
  exact ⟨cf, i, k, f, st, cell, h1, h2, h3, h4, K.2.1 _ _ h5 (by simpa using ne), h6, h7⟩
theorem own_nin {a x : Addr} (h : a ≠ x) : a ∉ [x] := by simpa using h

theorem own_lc {a b : Int64} (h : a = b) : lcmpW a b = (0 : Int32) := by
  subst h
  simp [lcmpW, Int64.lt_irrefl]
theorem own_rt (p : Int32) : 1 ≤ (own_max (1 : Int32) (p &&& (2147483647 : Int32))).toInt := by
  have l1 : (1 : Int32).toInt = 1 := rfl
  unfold own_max
  split
  · rename_i h
    rw [Int32.lt_iff_toInt_lt] at h
    omega
  · omega
theorem own_t64 (m : Int32) : (m.toInt64).toInt = m.toInt := Jvm.Kit.i64_of_i32 m
theorem own_r0 {r : Int32} (h : 1 ≤ r.toInt) : r.toInt64 ≠ 0 := fun q => by
  have e := own_t64 r
  rw [q] at e
  have l0 : (0 : Int64).toInt = 0 := rfl
  omega
theorem own_ix (q : Int64) : 0 ≤ (q &&& (8589934591 : Int64)).toInt ∧ (q &&& (8589934591 : Int64)).toInt < 8589934592 := by
  have e1 : (q &&& (8589934591 : Int64)).toInt = q.toInt % 2 ^ 33 := Jvm.Kit.i64_mask q 8589934591 (k := 33) (by decide) (by decide)
  omega
theorem own_kk (p : Int32) : 0 ≤ ((p &&& (536870911 : Int32)).toInt64).toInt ∧ ((p &&& (536870911 : Int32)).toInt64).toInt < 536870912 := by
  have e1 : (p &&& (536870911 : Int32)).toInt = p.toInt % 2 ^ 29 := Jvm.Kit.i32_mask p 536870911 (k := 29) (by decide) (by decide)
  rw [own_t64]
  omega
/-- what dueNanos returns, as a plain number -/
theorem own_dueI {r : Int32} {i : Int64} (h1 : 1 ≤ r.toInt) (h2 : 0 ≤ i.toInt) (h3 : i.toInt / r.toInt < 9126805504) : (own_due r i).toInt = i.toInt / r.toInt * 1000000000 + i.toInt % r.toInt * 1000000000 / r.toInt := by
  have hr2 := r.toInt_lt
  have l : (1000000000 : Int64).toInt = 1000000000 := rfl
  have e0 := own_t64 r
  have q0 : 0 ≤ i.toInt / r.toInt := Int.ediv_nonneg h2 (by omega)
  have m0 : 0 ≤ i.toInt % r.toInt := Int.emod_nonneg _ (by omega)
  have m1 : i.toInt % r.toInt < r.toInt := Int.emod_lt_of_pos _ (by omega)
  have a1 : (i / r.toInt64).toInt = i.toInt / r.toInt := by
    rw [Jvm.Kit.i64_div (by omega), e0]; exact Int.tdiv_eq_ediv_of_nonneg h2
  have a2 : (i - (i / (r.toInt64)) * (r.toInt64)).toInt = i.toInt % r.toInt := by rw [Jvm.Kit.i64_rem_nonneg h2, e0]
  have a3 : ((i / r.toInt64) * (1000000000 : Int64)).toInt = i.toInt / r.toInt * 1000000000 := by rw [Jvm.Kit.i64_mul (by rw [a1, l]; omega) (by rw [a1, l]; omega), a1, l]
  have a4 : ((i - (i / (r.toInt64)) * (r.toInt64)) * (1000000000 : Int64)).toInt = i.toInt % r.toInt * 1000000000 := by rw [Jvm.Kit.i64_mul (by rw [a2, l]; omega) (by rw [a2, l]; omega), a2, l]
  have a5 : (((i - (i / (r.toInt64)) * (r.toInt64)) * (1000000000 : Int64)) / r.toInt64).toInt = i.toInt % r.toInt * 1000000000 / r.toInt := by
    rw [Jvm.Kit.i64_div (by omega), a4, e0]; exact Int.tdiv_eq_ediv_of_nonneg (by omega)
  have b1 : 0 ≤ i.toInt % r.toInt * 1000000000 / r.toInt := Int.ediv_nonneg (by omega) (by omega)
  have b2 : i.toInt % r.toInt * 1000000000 / r.toInt < 1000000000 := Int.ediv_lt_of_lt_mul (by omega) (by omega)
  unfold own_due
  rw [Jvm.Kit.i64_add (by rw [a3, a5]; omega) (by rw [a3, a5]; omega), a3, a5]
theorem own_d0 {r : Int32} {i : Int64} (h1 : 1 ≤ r.toInt) (h2 : 0 ≤ i.toInt ∧ i.toInt < 8589934592) : own_due r i = ((i * (1000000000 : Int64)) / (r.toInt64)) := by
  have l : (1000000000 : Int64).toInt = 1000000000 := rfl
  have e0 := own_t64 r
  have q1 : i.toInt / r.toInt ≤ i.toInt := Int.ediv_le_self _ h2.1
  have c1 := own_dueI h1 h2.1 (by omega)
  have a1 : (i * (1000000000 : Int64)).toInt = i.toInt * 1000000000 := by rw [Jvm.Kit.i64_mul (by rw [l]; omega) (by rw [l]; omega), l]
  rw [← Int64.toInt_inj, c1, Jvm.Kit.i64_div (by omega), a1, e0, Int.tdiv_eq_ediv_of_nonneg (by omega)]
  have k := Int.emod_add_mul_ediv i.toInt r.toInt
  have k2 : i.toInt * 1000000000 = i.toInt % r.toInt * 1000000000 + r.toInt * (i.toInt / r.toInt * 1000000000) := by
    rw [← Int.mul_assoc, ← Int.add_mul, k]
  rw [k2, Int.add_mul_ediv_left _ _ (by omega), Int.add_comm]
theorem own_d1 {r : Int32} {i k : Int64} (h1 : 1 ≤ r.toInt) (h2 : 0 ≤ i.toInt ∧ i.toInt < 8589934592) (h3 : 0 ≤ k.toInt ∧ k.toInt < 536870912) : own_due r (i + (k * (r.toInt64))) = own_due r i + (k * (1000000000 : Int64)) := by
  have l : (1000000000 : Int64).toInt = 1000000000 := rfl
  have hr2 := r.toInt_lt
  have e0 := own_t64 r
  have q1 : i.toInt / r.toInt ≤ i.toInt := Int.ediv_le_self _ h2.1
  have q0 : 0 ≤ i.toInt / r.toInt := Int.ediv_nonneg h2.1 (by omega)
  have p0 : 0 ≤ k.toInt * r.toInt := Int.mul_nonneg h3.1 (by omega)
  have p1 : k.toInt * r.toInt ≤ 536870912 * 2147483648 := Int.mul_le_mul (by omega) (by omega) (by omega) (by omega)
  have a1 : (k * r.toInt64).toInt = k.toInt * r.toInt := by rw [Jvm.Kit.i64_mul (by rw [e0]; omega) (by rw [e0]; omega), e0]
  have a2 : (i + k * r.toInt64).toInt = i.toInt + k.toInt * r.toInt := by rw [Jvm.Kit.i64_add (by omega) (by omega), a1]
  have d1 : (i.toInt + k.toInt * r.toInt) / r.toInt = i.toInt / r.toInt + k.toInt := Int.add_mul_ediv_right _ _ (by omega)
  have d2 : (i.toInt + k.toInt * r.toInt) % r.toInt = i.toInt % r.toInt := Int.add_mul_emod_self_right _ _ _
  have c0 := own_dueI h1 h2.1 (by omega)
  have c1 := own_dueI (i := i + k * r.toInt64) h1 (by omega) (by rw [a2, d1]; omega)
  rw [a2, d1, d2] at c1
  have a3 : (k * (1000000000 : Int64)).toInt = k.toInt * 1000000000 := by rw [Jvm.Kit.i64_mul (by rw [l]; omega) (by rw [l]; omega), l]
  have m0 : 0 ≤ i.toInt % r.toInt := Int.emod_nonneg _ (by omega)
  have m1 : i.toInt % r.toInt < r.toInt := Int.emod_lt_of_pos _ (by omega)
  have b1 : 0 ≤ i.toInt % r.toInt * 1000000000 / r.toInt := Int.ediv_nonneg (by omega) (by omega)
  have b2 : i.toInt % r.toInt * 1000000000 / r.toInt < 1000000000 := Int.ediv_lt_of_lt_mul (by omega) (by omega)
  generalize own_due r (i + (k * (r.toInt64))) = u at c1 ⊢
  generalize own_due r i = w at c0 ⊢
  generalize (k * (1000000000 : Int64)) = y at a3 ⊢
  have e9 : (w + y).toInt = w.toInt + y.toInt := Jvm.Kit.i64_add (by omega) (by omega)
  apply Int64.toInt_inj.mp
  rw [e9]
  omega

theorem own_rm1_d0 : decode jdk_29_method_65_code 0 = .ok (.iload_n 0, 1) := by decide +kernel
theorem own_rm1_d1 : decode jdk_29_method_65_code 1 = .ok (.iload_n 1, 1) := by decide +kernel
theorem own_rm1_d2 : decode jdk_29_method_65_code 2 = .ok (.if_icmp .lt 7, 3) := by decide +kernel
theorem own_rm1_d5 : decode jdk_29_method_65_code 5 = .ok (.iload_n 0, 1) := by decide +kernel
theorem own_rm1_d6 : decode jdk_29_method_65_code 6 = .ok (.goto 4, 3) := by decide +kernel
theorem own_rm1_d9 : decode jdk_29_method_65_code 9 = .ok (.iload_n 1, 1) := by decide +kernel
theorem own_rm1_d10 : decode jdk_29_method_65_code 10 = .ok (.ireturn, 1) := by decide +kernel
theorem own_rm1_ef (m : MethodId) (x0 : Int32) (x1 : Int32) : entryFrame m #[(.int x0), (.int x1)] 2 = mkF m 0 #[.val (.int x0), .val (.int x1)] [] := by first | (simp [entryFrame, mkF, argsToLocals, Value.category]; done) | rfl
def own_rm1_Q (Z : State) (p1 : Int32) (p2 : Int32) (h0 : Heap) (n0 : Nat) (v : Option Value) (h : Heap) (L : List Loc) : Prop := v = some (.int (own_max p1 p2)) ∧ Fr n0 L ∧ h = h0
set_option maxRecDepth 65536 in
set_option maxHeartbeats 40000000 in
theorem own_rm1 (l : Launch) (Z : State) (a0 : Array Value) (hw : ∀ d ∈ tables_1, d.before a0 Z = true) (ws : List Jvm.Cond) (p1 : Int32) (p2 : Int32) (h0 : Heap) (n0 : Nat) (Z0 : n0 ≤ h0.size) :
    MetFree l (⟨"java/lang/Math", "max", "(II)I"⟩ : MethodName) (head1 (Jvm.Cond.code (⟨"java/lang/Math", "max", "(II)I"⟩ : MethodName) jdk_29_method_65_code 2 (some .int) :: ws) ({ frames := 0, cells := 0, slots := 0, locals := 0 } : Room)) (fun a U => a = #[(.int p1), (.int p2)] ∧ Z.Warmed39 U.vm ∧ U.heap = h0) (fun _ _ _ _ _ => True) (fun _ U o U' => ∃ v L, o = .returned v ∧ own_rm1_Q Z p1 p2 h0 n0 v U'.heap L ∧ FrameEnd U o U' L ({ frames := 0, cells := 0, slots := 0, locals := 0 } : Room).cells ({ frames := 0, cells := 0, slots := 0, locals := 0 } : Room).slots) := by
  refine MetFree.of_bodySF (Jvm.Free.JP.mathPlain rfl (by decide +kernel)) hisR ?_
  intro p e s m args below meth c s₁ Bd hml0 hPre hK
  obtain ⟨rfl, hZ, hh⟩ := hPre
  have hx := Bd.exec
  have hby := Bd.bytes
  have hml : c.maxLocals = 2 := hml0
  have hown : s.vm.findClass "java/lang/Math" = some m.cls := findClass_of_methodNamed Bd.named
  have hnm := (name_of_methodNamed Bd.named Bd.method).1
  have X0 : Stand p l e ({ frames := 0, cells := 0, slots := 0, locals := 0 } : Room) s m #[(.int p1), (.int p2)] below meth c s₁ [] 0 0 := Stand.of_body Bd
  have e0 : s₁.heap = h0 := by rw [← hh, Bd.state]; rfl
  have N0 := Fr.nil n0
  refine own_body fun P hP => ?_
  refine own_st (t' := s₁.setTop (mkF m 0 #[.val (.int p1), .val (.int p2)] [])) (fun _ k => castTop (own_rm1_ef m p1 p2) k) ?_
  refine own_st (t' := s₁.setTop (mkF m 1 #[.val (.int p1), .val (.int p2)] [(.int p1)])) (fun _ k => XS.iloadN X0.here hx rfl (hb hby own_rm1_d0) rfl k) ?_
  refine own_st (t' := s₁.setTop (mkF m 2 #[.val (.int p1), .val (.int p2)] [(.int p2), (.int p1)])) (fun _ k => XS.iloadN X0.here hx rfl (hb hby own_rm1_d1) rfl k) ?_
  by_cases c2_1 : p1 < p2
  · refine own_st (t' := s₁.setTop (mkF m 9 #[.val (.int p1), .val (.int p2)] [])) (fun _ k => XS.icmpYes X0.here hx rfl (pc0 := 2) (pc' := 9) rfl (hb hby own_rm1_d2) rfl (tlt c2_1).1 (by decide) (by decide) k) ?_
    refine own_st (t' := s₁.setTop (mkF m 10 #[.val (.int p1), .val (.int p2)] [(.int p2)])) (fun _ k => XS.iloadN X0.here hx rfl (hb hby own_rm1_d9) rfl k) ?_
    have hv2 : p2 = own_max p1 p2 := by simp [own_max, c2_1]
    obtain ⟨fs, hr, hrun, hended, hW, hsame⟩ := X0.leave (v := some (.int p2)) (fun h => by rw [Bd.returns] at h; cases h)
    exact ⟨_, _, retI X0 hx Bd.returns (hb hby own_rm1_d10) hr, hrun, hended, hP _ _ ⟨_, _, rfl, ⟨(congrArg (fun z => some (Value.int z)) hv2), N0, e0⟩, ⟨_, rfl⟩, hW, hsame.mono (by decide) (by decide)⟩⟩
  · refine own_st (t' := s₁.setTop (mkF m 5 #[.val (.int p1), .val (.int p2)] [])) (fun _ k => XS.icmpNo X0.here hx rfl (hb hby own_rm1_d2) rfl (flt c2_1).1 k) ?_
    refine own_st (t' := s₁.setTop (mkF m 6 #[.val (.int p1), .val (.int p2)] [(.int p1)])) (fun _ k => XS.iloadN X0.here hx rfl (hb hby own_rm1_d5) rfl k) ?_
    refine own_st (t' := s₁.setTop (mkF m 10 #[.val (.int p1), .val (.int p2)] [(.int p1)])) (fun _ k => XS.goto X0.here hx rfl (pc0 := 6) (pc' := 10) rfl (hb hby own_rm1_d6) (by decide) (by decide) k) ?_
    have hv3 : p1 = own_max p1 p2 := by simp [own_max, c2_1]
    obtain ⟨fs, hr, hrun, hended, hW, hsame⟩ := X0.leave (v := some (.int p1)) (fun h => by rw [Bd.returns] at h; cases h)
    exact ⟨_, _, retI X0 hx Bd.returns (hb hby own_rm1_d10) hr, hrun, hended, hP _ _ ⟨_, _, rfl, ⟨(congrArg (fun z => some (Value.int z)) hv3), N0, e0⟩, ⟨_, rfl⟩, hW, hsame.mono (by decide) (by decide)⟩⟩

theorem own_rm2_d0 : decode prog_33_method_1_code 0 = .ok (.aload_n 0, 1) := by decide +kernel
theorem own_rm2_d1 : decode prog_33_method_1_code 1 = .ok (.invokespecial 1, 3) := by decide +kernel
theorem own_rm2_d4 : decode prog_33_method_1_code 4 = .ok (.aload_n 0, 1) := by decide +kernel
theorem own_rm2_d5 : decode prog_33_method_1_code 5 = .ok (.iload_n 1, 1) := by decide +kernel
theorem own_rm2_d6 : decode prog_33_method_1_code 6 = .ok (.putfield 7, 3) := by decide +kernel
theorem own_rm2_d9 : decode prog_33_method_1_code 9 = .ok (.return_, 1) := by decide +kernel
theorem own_rm2_pn : plainName "com/example/grow_with_load/growwithload/replay/FixedRate" = true := by first | (simp [plainName, overriddenIn]; done) | decide +kernel
theorem own_rm2_ef (m : MethodId) (x0 : Addr) (x1 : Int32) : entryFrame m #[(.ref x0), (.int x1)] 2 = mkF m 0 #[.val (.ref x0), .val (.int x1)] [] := by first | (simp [entryFrame, mkF, argsToLocals, Value.category]; done) | rfl
def own_rm2_Q (Z : State) (a1 : Addr) (p1 : Int32) (h0 : Heap) (n0 : Nat) (v : Option Value) (h : Heap) (L : List Loc) : Prop := v = none ∧ Fr n0 L ∧ Keep h0 h [a1] ∧ Exa Z h a1 "com/example/grow_with_load/growwithload/replay/FixedRate" ∧ Fld Z h a1 "com/example/grow_with_load/growwithload/replay/FixedRate" "rate" "I" (.int p1)
set_option maxRecDepth 65536 in
set_option maxHeartbeats 40000000 in
theorem own_rm2 (l : Launch) (Z : State) (a0 : Array Value) (hw : ∀ d ∈ tables_1, d.before a0 Z = true) (ws : List Jvm.Cond) (a1 : Addr) (p1 : Int32) (h0 : Heap) (n0 : Nat) (Z0 : n0 ≤ h0.size) (E_a1 : Exa Z h0 a1 "com/example/grow_with_load/growwithload/replay/FixedRate") (F_rate : Fld Z h0 a1 "com/example/grow_with_load/growwithload/replay/FixedRate" "rate" "I" (.int (0 : Int32))) (bg_a1 : n0 ≤ a1) :
    MetFree l (⟨"com/example/grow_with_load/growwithload/replay/FixedRate", "<init>", "(I)V"⟩ : MethodName) (head1 (Jvm.Cond.code (⟨"com/example/grow_with_load/growwithload/replay/FixedRate", "<init>", "(I)V"⟩ : MethodName) prog_33_method_1_code 2 none :: ws) ({ frames := 1, cells := 0, slots := 0, locals := 12 } : Room)) (fun a U => a = #[(.ref a1), (.int p1)] ∧ Z.Warmed39 U.vm ∧ U.heap = h0) (fun _ _ _ _ _ => True) (fun _ U o U' => ∃ v L, o = .returned v ∧ own_rm2_Q Z a1 p1 h0 n0 v U'.heap L ∧ FrameEnd U o U' L ({ frames := 1, cells := 0, slots := 0, locals := 12 } : Room).cells ({ frames := 1, cells := 0, slots := 0, locals := 12 } : Room).slots) := by
  refine MetFree.of_bodySF (plainFor_of_name own_rm2_pn) hisR ?_
  intro p e s m args below meth c s₁ Bd hml0 hPre hK
  obtain ⟨rfl, hZ, hh⟩ := hPre
  have hx := Bd.exec
  have hby := Bd.bytes
  have hml : c.maxLocals = 2 := hml0
  have hown : s.vm.findClass "com/example/grow_with_load/growwithload/replay/FixedRate" = some m.cls := findClass_of_methodNamed Bd.named
  have hnm := (name_of_methodNamed Bd.named Bd.method).1
  have X0 : Stand p l e ({ frames := 1, cells := 0, slots := 0, locals := 12 } : Room) s m #[(.ref a1), (.int p1)] below meth c s₁ [] 0 0 := Stand.of_body Bd
  have e0 : s₁.heap = h0 := by rw [← hh, Bd.state]; rfl
  have N0 := Fr.nil n0
  refine own_body fun P hP => ?_
  refine own_st (t' := s₁.setTop (mkF m 0 #[.val (.ref a1), .val (.int p1)] [])) (fun _ k => castTop (own_rm2_ef m a1 p1) k) ?_
  refine own_st (t' := s₁.setTop (mkF m 1 #[.val (.ref a1), .val (.int p1)] [(.ref a1)])) (fun _ k => XS.aloadN X0.here hx rfl (hb hby own_rm2_d0) rfl rfl k) ?_
  obtain ⟨T1, X1, e1, st1⟩ := initO X0 hx hZ hown (hw _ (List.mem_of_getElem? (i := 13) rfl)) (hw _ (List.mem_of_getElem? (i := 14) rfl)) (hw _ (List.mem_of_getElem? (i := 15) rfl)) e0 (g := (mkF m 1 #[.val (.ref a1), .val (.int p1)] [(.ref a1)])) rfl (by rw [hml]; rfl) rfl (hb hby own_rm2_d1) (by decide) (W := 0) (by show 2 * 0 + _ ≤ _; exact Nat.le_of_eq rfl) (by decide)
  refine own_st (t' := T1.setTop (mkF m 4 #[.val (.ref a1), .val (.int p1)] [])) st1 ?_
  refine own_st (t' := T1.setTop (mkF m 5 #[.val (.ref a1), .val (.int p1)] [(.ref a1)])) (fun _ k => XS.aloadN X1.here hx rfl (hb hby own_rm2_d4) rfl rfl k) ?_
  refine own_st (t' := T1.setTop (mkF m 6 #[.val (.ref a1), .val (.int p1)] [(.int p1), (.ref a1)])) (fun _ k => XS.iloadN X1.here hx rfl (hb hby own_rm2_d5) rfl k) ?_
  obtain ⟨T2, h2, X2, e2, W2, st2⟩ := putF X1 hx hZ hown (host := "") (Or.inl (hw _ (List.mem_of_getElem? (i := 16) rfl))) Via.refl e1 F_rate E_a1 (Or.inr ⟨(hw _ (List.mem_of_getElem? (i := 17) rfl)), rfl, hnm⟩) (hw _ (List.mem_of_getElem? (i := 8) rfl)) (ty := .int) (by decide) rfl rfl (g := (mkF m 6 #[.val (.ref a1), .val (.int p1)] [(.int p1), (.ref a1)])) rfl rfl (hb hby own_rm2_d6)
  have Fw2 := F_rate.same W2
  have f2_Exa_a1 := E_a1.wr W2
  have N2 := Fr.snoc X2 N0 bg_a1
  have Z2 : n0 ≤ h2.size := Nat.le_trans Z0 (Keep.of_wr W2).1
  have K2 := (Keep.refl h0 [a1]).wr W2 (Or.inl (List.mem_of_getElem? (i := 0) rfl))
  refine own_st (t' := T2.setTop (mkF m 9 #[.val (.ref a1), .val (.int p1)] [])) st2 ?_
  obtain ⟨fs, hr, hrun, hended, hW, hsame⟩ := X2.leave (v := none) (fun _ => rfl)
  exact ⟨_, _, X2.returnOut hx Bd.returns (hb hby own_rm2_d9) hr, hrun, hended, hP _ _ ⟨_, _, rfl, ⟨rfl, N2, (by show Keep h0 T2.heap [a1] ∧ Exa Z T2.heap a1 "com/example/grow_with_load/growwithload/replay/FixedRate" ∧ Fld Z T2.heap a1 "com/example/grow_with_load/growwithload/replay/FixedRate" "rate" "I" (.int p1); rw [e2]; exact ⟨K2, f2_Exa_a1, Fw2⟩)⟩, ⟨_, rfl⟩, hW, hsame.mono (by decide) (by decide)⟩⟩

theorem own_rm3_d0 : decode prog_33_method_2_code 0 = .ok (.lload_n 1, 1) := by decide +kernel
theorem own_rm3_d1 : decode prog_33_method_2_code 1 = .ok (.aload_n 0, 1) := by decide +kernel
theorem own_rm3_d2 : decode prog_33_method_2_code 2 = .ok (.getfield 7, 3) := by decide +kernel
theorem own_rm3_d5 : decode prog_33_method_2_code 5 = .ok (.i2l, 1) := by decide +kernel
theorem own_rm3_d6 : decode prog_33_method_2_code 6 = .ok (.ldiv, 1) := by decide +kernel
theorem own_rm3_d7 : decode prog_33_method_2_code 7 = .ok (.getstatic 13, 3) := by decide +kernel
theorem own_rm3_d10 : decode prog_33_method_2_code 10 = .ok (.lmul, 1) := by decide +kernel
theorem own_rm3_d11 : decode prog_33_method_2_code 11 = .ok (.lload_n 1, 1) := by decide +kernel
theorem own_rm3_d12 : decode prog_33_method_2_code 12 = .ok (.aload_n 0, 1) := by decide +kernel
theorem own_rm3_d13 : decode prog_33_method_2_code 13 = .ok (.getfield 7, 3) := by decide +kernel
theorem own_rm3_d16 : decode prog_33_method_2_code 16 = .ok (.i2l, 1) := by decide +kernel
theorem own_rm3_d17 : decode prog_33_method_2_code 17 = .ok (.lrem, 1) := by decide +kernel
theorem own_rm3_d18 : decode prog_33_method_2_code 18 = .ok (.getstatic 13, 3) := by decide +kernel
theorem own_rm3_d21 : decode prog_33_method_2_code 21 = .ok (.lmul, 1) := by decide +kernel
theorem own_rm3_d22 : decode prog_33_method_2_code 22 = .ok (.aload_n 0, 1) := by decide +kernel
theorem own_rm3_d23 : decode prog_33_method_2_code 23 = .ok (.getfield 7, 3) := by decide +kernel
theorem own_rm3_d26 : decode prog_33_method_2_code 26 = .ok (.i2l, 1) := by decide +kernel
theorem own_rm3_d27 : decode prog_33_method_2_code 27 = .ok (.ldiv, 1) := by decide +kernel
theorem own_rm3_d28 : decode prog_33_method_2_code 28 = .ok (.ladd, 1) := by decide +kernel
theorem own_rm3_d29 : decode prog_33_method_2_code 29 = .ok (.lreturn, 1) := by decide +kernel
theorem own_rm3_pn : plainName "com/example/grow_with_load/growwithload/replay/FixedRate" = true := by first | (simp [plainName, overriddenIn]; done) | decide +kernel
theorem own_rm3_ef (m : MethodId) (x0 : Addr) (x1 : Int64) : entryFrame m #[(.ref x0), (.long x1)] 3 = mkF m 0 #[.val (.ref x0), .val (.long x1), .second] [] := by first | (simp [entryFrame, mkF, argsToLocals, Value.category]; done) | rfl
def own_rm3_Q (Z : State) (a1 : Addr) (q1 : Int64) (r : Int32) (h0 : Heap) (n0 : Nat) (v : Option Value) (h : Heap) (L : List Loc) : Prop := v = some (.long (own_due r q1)) ∧ Fr n0 L ∧ h = h0
set_option maxRecDepth 65536 in
set_option maxHeartbeats 40000000 in
theorem own_rm3 (l : Launch) (Z : State) (a0 : Array Value) (hw : ∀ d ∈ tables_1, d.before a0 Z = true) (ws : List Jvm.Cond) (a1 : Addr) (q1 : Int64) (r : Int32) (h0 : Heap) (n0 : Nat) (Z0 : n0 ≤ h0.size) (F_rate : Fld Z h0 a1 "com/example/grow_with_load/growwithload/replay/FixedRate" "rate" "I" (.int r)) (S_N : Sta Z h0 "com/example/grow_with_load/growwithload/replay/FixedRate" "NANOS_PER_SECOND" "J" (.long (1000000000 : Int64))) (hr : r.toInt64 ≠ 0) :
    MetFree l (⟨"com/example/grow_with_load/growwithload/replay/FixedRate", "dueNanos", "(J)J"⟩ : MethodName) (head1 (Jvm.Cond.code (⟨"com/example/grow_with_load/growwithload/replay/FixedRate", "dueNanos", "(J)J"⟩ : MethodName) prog_33_method_2_code 3 (some .long) :: ws) ({ frames := 0, cells := 0, slots := 0, locals := 0 } : Room)) (fun a U => a = #[(.ref a1), (.long q1)] ∧ Z.Warmed39 U.vm ∧ U.heap = h0) (fun _ _ _ _ _ => True) (fun _ U o U' => ∃ v L, o = .returned v ∧ own_rm3_Q Z a1 q1 r h0 n0 v U'.heap L ∧ FrameEnd U o U' L ({ frames := 0, cells := 0, slots := 0, locals := 0 } : Room).cells ({ frames := 0, cells := 0, slots := 0, locals := 0 } : Room).slots) := by
  refine MetFree.of_bodySF (plainFor_of_name own_rm3_pn) hisR ?_
  intro p e s m args below meth c s₁ Bd hml0 hPre hK
  obtain ⟨rfl, hZ, hh⟩ := hPre
  have hx := Bd.exec
  have hby := Bd.bytes
  have hml : c.maxLocals = 3 := hml0
  have hown : s.vm.findClass "com/example/grow_with_load/growwithload/replay/FixedRate" = some m.cls := findClass_of_methodNamed Bd.named
  have hnm := (name_of_methodNamed Bd.named Bd.method).1
  have X0 : Stand p l e ({ frames := 0, cells := 0, slots := 0, locals := 0 } : Room) s m #[(.ref a1), (.long q1)] below meth c s₁ [] 0 0 := Stand.of_body Bd
  have e0 : s₁.heap = h0 := by rw [← hh, Bd.state]; rfl
  have N0 := Fr.nil n0
  refine own_body fun P hP => ?_
  refine own_st (t' := s₁.setTop (mkF m 0 #[.val (.ref a1), .val (.long q1), .second] [])) (fun _ k => castTop (own_rm3_ef m a1 q1) k) ?_
  refine own_st (t' := s₁.setTop (mkF m 1 #[.val (.ref a1), .val (.long q1), .second] [(.long q1)])) (fun _ k => XS.lloadN X0.here hx rfl (hb hby own_rm3_d0) rfl k) ?_
  refine own_st (t' := s₁.setTop (mkF m 2 #[.val (.ref a1), .val (.long q1), .second] [(.ref a1), (.long q1)])) (fun _ k => XS.aloadN X0.here hx rfl (hb hby own_rm3_d1) rfl rfl k) ?_
  obtain ⟨T1, X1, e1, st1⟩ := getF X0 hx hZ hown (host := "") (Or.inl (hw _ (List.mem_of_getElem? (i := 16) rfl))) Via.refl e0 F_rate (g := (mkF m 2 #[.val (.ref a1), .val (.long q1), .second] [(.ref a1), (.long q1)])) rfl rfl (hb hby own_rm3_d2)
  refine own_st (t' := T1.setTop (mkF m 5 #[.val (.ref a1), .val (.long q1), .second] [(.int r), (.long q1)])) st1 ?_
  refine own_st (t' := T1.setTop (mkF m 6 #[.val (.ref a1), .val (.long q1), .second] [(.long (r.toInt64)), (.long q1)])) (fun _ k => XS.i2l X1.here hx rfl (hb hby own_rm3_d5) rfl k) ?_
  refine own_st (t' := T1.setTop (mkF m 7 #[.val (.ref a1), .val (.long q1), .second] [(.long (q1 / (r.toInt64)))])) (fun _ k => XS.ldiv X1.here hx rfl (hb hby own_rm3_d6) rfl hr k) ?_
  obtain ⟨T2, X2, e2, st2⟩ := getS2 X1 hx hZ hown (host := "") (Or.inl (hw _ (List.mem_of_getElem? (i := 23) rfl))) Via.refl e1 S_N (g := (mkF m 7 #[.val (.ref a1), .val (.long q1), .second] [(.long (q1 / (r.toInt64)))])) rfl (hb hby own_rm3_d7)
  refine own_st (t' := T2.setTop (mkF m 10 #[.val (.ref a1), .val (.long q1), .second] [(.long (1000000000 : Int64)), (.long (q1 / (r.toInt64)))])) st2 ?_
  refine own_st (t' := T2.setTop (mkF m 11 #[.val (.ref a1), .val (.long q1), .second] [(.long ((q1 / (r.toInt64)) * (1000000000 : Int64)))])) (fun _ k => XS.lmul X2.here hx rfl (hb hby own_rm3_d10) rfl k) ?_
  refine own_st (t' := T2.setTop (mkF m 12 #[.val (.ref a1), .val (.long q1), .second] [(.long q1), (.long ((q1 / (r.toInt64)) * (1000000000 : Int64)))])) (fun _ k => XS.lloadN X2.here hx rfl (hb hby own_rm3_d11) rfl k) ?_
  refine own_st (t' := T2.setTop (mkF m 13 #[.val (.ref a1), .val (.long q1), .second] [(.ref a1), (.long q1), (.long ((q1 / (r.toInt64)) * (1000000000 : Int64)))])) (fun _ k => XS.aloadN X2.here hx rfl (hb hby own_rm3_d12) rfl rfl k) ?_
  obtain ⟨T3, X3, e3, st3⟩ := getF X2 hx hZ hown (host := "") (Or.inl (hw _ (List.mem_of_getElem? (i := 16) rfl))) Via.refl e2 F_rate (g := (mkF m 13 #[.val (.ref a1), .val (.long q1), .second] [(.ref a1), (.long q1), (.long ((q1 / (r.toInt64)) * (1000000000 : Int64)))])) rfl rfl (hb hby own_rm3_d13)
  refine own_st (t' := T3.setTop (mkF m 16 #[.val (.ref a1), .val (.long q1), .second] [(.int r), (.long q1), (.long ((q1 / (r.toInt64)) * (1000000000 : Int64)))])) st3 ?_
  refine own_st (t' := T3.setTop (mkF m 17 #[.val (.ref a1), .val (.long q1), .second] [(.long (r.toInt64)), (.long q1), (.long ((q1 / (r.toInt64)) * (1000000000 : Int64)))])) (fun _ k => XS.i2l X3.here hx rfl (hb hby own_rm3_d16) rfl k) ?_
  refine own_st (t' := T3.setTop (mkF m 18 #[.val (.ref a1), .val (.long q1), .second] [(.long (q1 - (q1 / (r.toInt64)) * (r.toInt64))), (.long ((q1 / (r.toInt64)) * (1000000000 : Int64)))])) (fun _ k => XS.lrem X3.here hx rfl (hb hby own_rm3_d17) rfl hr k) ?_
  obtain ⟨T4, X4, e4, st4⟩ := getS2 X3 hx hZ hown (host := "") (Or.inl (hw _ (List.mem_of_getElem? (i := 23) rfl))) Via.refl e3 S_N (g := (mkF m 18 #[.val (.ref a1), .val (.long q1), .second] [(.long (q1 - (q1 / (r.toInt64)) * (r.toInt64))), (.long ((q1 / (r.toInt64)) * (1000000000 : Int64)))])) rfl (hb hby own_rm3_d18)
  refine own_st (t' := T4.setTop (mkF m 21 #[.val (.ref a1), .val (.long q1), .second] [(.long (1000000000 : Int64)), (.long (q1 - (q1 / (r.toInt64)) * (r.toInt64))), (.long ((q1 / (r.toInt64)) * (1000000000 : Int64)))])) st4 ?_
  refine own_st (t' := T4.setTop (mkF m 22 #[.val (.ref a1), .val (.long q1), .second] [(.long ((q1 - (q1 / (r.toInt64)) * (r.toInt64)) * (1000000000 : Int64))), (.long ((q1 / (r.toInt64)) * (1000000000 : Int64)))])) (fun _ k => XS.lmul X4.here hx rfl (hb hby own_rm3_d21) rfl k) ?_
  refine own_st (t' := T4.setTop (mkF m 23 #[.val (.ref a1), .val (.long q1), .second] [(.ref a1), (.long ((q1 - (q1 / (r.toInt64)) * (r.toInt64)) * (1000000000 : Int64))), (.long ((q1 / (r.toInt64)) * (1000000000 : Int64)))])) (fun _ k => XS.aloadN X4.here hx rfl (hb hby own_rm3_d22) rfl rfl k) ?_
  obtain ⟨T5, X5, e5, st5⟩ := getF X4 hx hZ hown (host := "") (Or.inl (hw _ (List.mem_of_getElem? (i := 16) rfl))) Via.refl e4 F_rate (g := (mkF m 23 #[.val (.ref a1), .val (.long q1), .second] [(.ref a1), (.long ((q1 - (q1 / (r.toInt64)) * (r.toInt64)) * (1000000000 : Int64))), (.long ((q1 / (r.toInt64)) * (1000000000 : Int64)))])) rfl rfl (hb hby own_rm3_d23)
  refine own_st (t' := T5.setTop (mkF m 26 #[.val (.ref a1), .val (.long q1), .second] [(.int r), (.long ((q1 - (q1 / (r.toInt64)) * (r.toInt64)) * (1000000000 : Int64))), (.long ((q1 / (r.toInt64)) * (1000000000 : Int64)))])) st5 ?_
  refine own_st (t' := T5.setTop (mkF m 27 #[.val (.ref a1), .val (.long q1), .second] [(.long (r.toInt64)), (.long ((q1 - (q1 / (r.toInt64)) * (r.toInt64)) * (1000000000 : Int64))), (.long ((q1 / (r.toInt64)) * (1000000000 : Int64)))])) (fun _ k => XS.i2l X5.here hx rfl (hb hby own_rm3_d26) rfl k) ?_
  refine own_st (t' := T5.setTop (mkF m 28 #[.val (.ref a1), .val (.long q1), .second] [(.long (((q1 - (q1 / (r.toInt64)) * (r.toInt64)) * (1000000000 : Int64)) / (r.toInt64))), (.long ((q1 / (r.toInt64)) * (1000000000 : Int64)))])) (fun _ k => XS.ldiv X5.here hx rfl (hb hby own_rm3_d27) rfl hr k) ?_
  refine own_st (t' := T5.setTop (mkF m 29 #[.val (.ref a1), .val (.long q1), .second] [(.long (((q1 / (r.toInt64)) * (1000000000 : Int64)) + (((q1 - (q1 / (r.toInt64)) * (r.toInt64)) * (1000000000 : Int64)) / (r.toInt64))))])) (fun _ k => XS.ladd X5.here hx rfl (hb hby own_rm3_d28) rfl k) ?_
  have hv6 : (((q1 / (r.toInt64)) * (1000000000 : Int64)) + (((q1 - (q1 / (r.toInt64)) * (r.toInt64)) * (1000000000 : Int64)) / (r.toInt64))) = own_due r q1 := rfl
  obtain ⟨fs, hr, hrun, hended, hW, hsame⟩ := X5.leave (v := some (.long (((q1 / (r.toInt64)) * (1000000000 : Int64)) + (((q1 - (q1 / (r.toInt64)) * (r.toInt64)) * (1000000000 : Int64)) / (r.toInt64))))) (fun h => by rw [Bd.returns] at h; cases h)
  exact ⟨_, _, X5.lreturnOut hx Bd.returns (hb hby own_rm3_d29) hr, hrun, hended, hP _ _ ⟨_, _, rfl, ⟨(congrArg (fun z => some (Value.long z)) hv6), N0, e5⟩, ⟨_, rfl⟩, hW, hsame.mono (by decide) (by decide)⟩⟩

theorem own_rm0_pn : plainName "com/example/grow_with_load/growwithload/replay/FixedRateDueNanosPinLaw" = true := by first | (simp [plainName, overriddenIn]; done) | decide +kernel
theorem own_rm0_pd0 : parseMethodDescriptor "(II)I" = some ⟨[.int, .int], some .int⟩ := by decide +kernel
theorem own_rm0_pd1 : parseMethodDescriptor "(I)V" = some ⟨[.int], none⟩ := by decide +kernel
theorem own_rm0_pd2 : parseMethodDescriptor "(J)J" = some ⟨[.long], some .long⟩ := by decide +kernel
theorem own_rm0_ef (m : MethodId) (x0 : Int32) (x1 : Int64) (x2 : Int32) : entryFrame m #[(.int x0), (.long x1), (.int x2)] maxLocals = mkF m 0 #[.val (.int x0), .val (.long x1), .second, .val (.int x2), .unset, .unset, .unset, .unset, .unset, .unset, .unset, .unset, .unset, .unset, .unset, .unset] [] := by first | (simp [entryFrame, mkF, argsToLocals, Value.category, maxLocals]; done) | rfl
def own_rm0_Q (Z : State) (p1 : Int32) (q1 : Int64) (p2 : Int32) (h0 : Heap) (n0 : Nat) (v : Option Value) (h : Heap) (L : List Loc) : Prop := v = some (.int ((1 : Int32))) ∧ Fr n0 L
set_option maxRecDepth 65536 in
set_option maxHeartbeats 40000000 in
theorem own_rm0 (l : Launch) (Z : State) (a0 : Array Value) (hw : ∀ d ∈ tables_1, d.before a0 Z = true) (ws : List Jvm.Cond) (p1 : Int32) (q1 : Int64) (p2 : Int32) (h0 : Heap) (n0 : Nat) (Z0 : n0 ≤ h0.size) (S_N : Sta Z h0 "com/example/grow_with_load/growwithload/replay/FixedRate" "NANOS_PER_SECOND" "J" (.long (1000000000 : Int64))) :
    MetFree l x (head1 (Jvm.Cond.code x code maxLocals ret :: ws) room_1) (fun a U => a = #[(.int p1), (.long q1), (.int p2)] ∧ Z.Warmed39 U.vm ∧ U.heap = h0) (fun _ _ _ _ _ => True) (fun _ U o U' => ∃ v L, o = .returned v ∧ own_rm0_Q Z p1 q1 p2 h0 n0 v U'.heap L ∧ FrameEnd U o U' L room_1.cells room_1.slots) := by
  refine MetFree.of_bodySF (plainFor_of_name own_rm0_pn) hisR ?_
  intro p e s m args below meth c s₁ Bd hml0 hPre hK
  obtain ⟨rfl, hZ, hh⟩ := hPre
  have hx := Bd.exec
  have hby := Bd.bytes
  have hml : c.maxLocals = 16 := hml0
  have hown : s.vm.findClass "com/example/grow_with_load/growwithload/replay/FixedRateDueNanosPinLaw" = some m.cls := findClass_of_methodNamed Bd.named
  have hnm := (name_of_methodNamed Bd.named Bd.method).1
  have X0 : Stand p l e room_1 s m #[(.int p1), (.long q1), (.int p2)] below meth c s₁ [] 0 0 := Stand.of_body Bd
  have e0 : s₁.heap = h0 := by rw [← hh, Bd.state]; rfl
  have N0 := Fr.nil n0
  refine own_body fun P hP => ?_
  refine own_st (t' := s₁.setTop (mkF m 0 #[.val (.int p1), .val (.long q1), .second, .val (.int p2), .unset, .unset, .unset, .unset, .unset, .unset, .unset, .unset, .unset, .unset, .unset, .unset] [])) (fun _ k => castTop (own_rm0_ef m p1 q1 p2) k) ?_
  refine own_st (t' := s₁.setTop (mkF m 1 #[.val (.int p1), .val (.long q1), .second, .val (.int p2), .unset, .unset, .unset, .unset, .unset, .unset, .unset, .unset, .unset, .unset, .unset, .unset] [(.int (1 : Int32))])) (fun _ k => XS.iconst X0.here hx rfl (hb hby at_0) k) ?_
  refine own_st (t' := s₁.setTop (mkF m 2 #[.val (.int p1), .val (.long q1), .second, .val (.int p2), .unset, .unset, .unset, .unset, .unset, .unset, .unset, .unset, .unset, .unset, .unset, .unset] [(.int p1), (.int (1 : Int32))])) (fun _ k => XS.iloadN X0.here hx rfl (hb hby at_1) rfl k) ?_
  refine own_st (t' := s₁.setTop (mkF m 4 #[.val (.int p1), .val (.long q1), .second, .val (.int p2), .unset, .unset, .unset, .unset, .unset, .unset, .unset, .unset, .unset, .unset, .unset, .unset] [(.int (2147483647 : Int32)), (.int p1), (.int (1 : Int32))])) (fun _ k => X0.ldcInt hx hown (mvT hZ (hw _ (List.mem_of_getElem? (i := 0) rfl))) (g := (mkF m 2 #[.val (.int p1), .val (.long q1), .second, .val (.int p2), .unset, .unset, .unset, .unset, .unset, .unset, .unset, .unset, .unset, .unset, .unset, .unset] [(.int p1), (.int (1 : Int32))])) rfl (hb hby at_2) _ k) ?_
  refine own_st (t' := s₁.setTop (mkF m 5 #[.val (.int p1), .val (.long q1), .second, .val (.int p2), .unset, .unset, .unset, .unset, .unset, .unset, .unset, .unset, .unset, .unset, .unset, .unset] [(.int (p1 &&& (2147483647 : Int32))), (.int (1 : Int32))])) (fun _ k => XS.iand X0.here hx rfl (hb hby at_4) rfl k) ?_
  obtain ⟨_, _, ⟨T1, L1, k1, n1⟩, -, X1, ⟨Lc1, hQ1, l1, y1, z1⟩, st1⟩ := Jvm.LawKit.callS X0 hx (y := (⟨"java/lang/Math", "max", "(II)I"⟩ : MethodName)) hown (mvT hZ (hw _ (List.mem_of_getElem? (i := 1) rfl))) (mvT hZ (hw _ (List.mem_of_getElem? (i := 2) rfl))) (mvT hZ (hw _ (List.mem_of_getElem? (i := 3) rfl))) (mvT hZ (hw _ (List.mem_of_getElem? (i := 4) rfl))) (by decide) (backOf (W := 0) (own_rm1 l Z a0 hw [] (1 : Int32) (p1 &&& (2147483647 : Int32))  h0 n0 Z0 ) hZ (hw _ (List.mem_of_getElem? (i := 4) rfl)) (hw _ (List.mem_of_getElem? (i := 3) rfl)) (by decide) (by decide)) (g := (mkF m 5 #[.val (.int p1), .val (.long q1), .second, .val (.int p2), .unset, .unset, .unset, .unset, .unset, .unset, .unset, .unset, .unset, .unset, .unset, .unset] [(.int (p1 &&& (2147483647 : Int32))), (.int (1 : Int32))])) rfl (by rw [hml]; rfl) (argsL := [(.int (1 : Int32)), (.int (p1 &&& (2147483647 : Int32)))]) (rest := []) (lenOf own_rm0_pd0 rfl) rfl (by show 2 * 0 + _ ≤ _; exact Nat.le_of_eq rfl) (hb hby at_5) (fun _ _ => ⟨rfl, e0, (by decide : 0 + 0 ≤ _), (by decide : 0 + 0 ≤ _)⟩)
  dsimp only [Pt.U, Pt.locs, Pt.cells, Pt.slots] at X1 l1 y1 z1 st1 hQ1
  subst l1 y1 z1
  obtain ⟨rfl, N1q, e1⟩ := hQ1
  have N1 := Fr.app N0 N1q
  refine own_st (t' := T1.setTop (mkF m 8 #[.val (.int p1), .val (.long q1), .second, .val (.int p2), .unset, .unset, .unset, .unset, .unset, .unset, .unset, .unset, .unset, .unset, .unset, .unset] [(.int (own_max (1 : Int32) (p1 &&& (2147483647 : Int32))))])) st1 ?_
  refine own_st (t' := T1.setTop (mkF m 10 #[.val (.int p1), .val (.long q1), .second, .val (.int p2), .val (.int (own_max (1 : Int32) (p1 &&& (2147483647 : Int32)))), .unset, .unset, .unset, .unset, .unset, .unset, .unset, .unset, .unset, .unset, .unset] [])) (fun _ k => XS.istore X1.here hx rfl (hb hby at_8) rfl (l' := #[.val (.int p1), .val (.long q1), .second, .val (.int p2), .val (.int (own_max (1 : Int32) (p1 &&& (2147483647 : Int32)))), .unset, .unset, .unset, .unset, .unset, .unset, .unset, .unset, .unset, .unset, .unset]) rfl k) ?_
  refine own_st (t' := T1.setTop (mkF m 11 #[.val (.int p1), .val (.long q1), .second, .val (.int p2), .val (.int (own_max (1 : Int32) (p1 &&& (2147483647 : Int32)))), .unset, .unset, .unset, .unset, .unset, .unset, .unset, .unset, .unset, .unset, .unset] [(.long q1)])) (fun _ k => XS.lloadN X1.here hx rfl (hb hby at_10) rfl k) ?_
  refine own_st (t' := T1.setTop (mkF m 14 #[.val (.int p1), .val (.long q1), .second, .val (.int p2), .val (.int (own_max (1 : Int32) (p1 &&& (2147483647 : Int32)))), .unset, .unset, .unset, .unset, .unset, .unset, .unset, .unset, .unset, .unset, .unset] [(.long (8589934591 : Int64)), (.long q1)])) (fun _ k => X1.ldc2Long hx hown (mvT hZ (hw _ (List.mem_of_getElem? (i := 5) rfl))) (g := (mkF m 11 #[.val (.int p1), .val (.long q1), .second, .val (.int p2), .val (.int (own_max (1 : Int32) (p1 &&& (2147483647 : Int32)))), .unset, .unset, .unset, .unset, .unset, .unset, .unset, .unset, .unset, .unset, .unset] [(.long q1)])) rfl (hb hby at_11) _ k) ?_
  refine own_st (t' := T1.setTop (mkF m 15 #[.val (.int p1), .val (.long q1), .second, .val (.int p2), .val (.int (own_max (1 : Int32) (p1 &&& (2147483647 : Int32)))), .unset, .unset, .unset, .unset, .unset, .unset, .unset, .unset, .unset, .unset, .unset] [(.long (q1 &&& (8589934591 : Int64)))])) (fun _ k => XS.land X1.here hx rfl (hb hby at_14) rfl k) ?_
  refine own_st (t' := T1.setTop (mkF m 17 #[.val (.int p1), .val (.long q1), .second, .val (.int p2), .val (.int (own_max (1 : Int32) (p1 &&& (2147483647 : Int32)))), .val (.long (q1 &&& (8589934591 : Int64))), .second, .unset, .unset, .unset, .unset, .unset, .unset, .unset, .unset, .unset] [])) (fun _ k => XS.lstore X1.here hx rfl (hb hby at_15) rfl (l' := #[.val (.int p1), .val (.long q1), .second, .val (.int p2), .val (.int (own_max (1 : Int32) (p1 &&& (2147483647 : Int32)))), .val (.long (q1 &&& (8589934591 : Int64))), .second, .unset, .unset, .unset, .unset, .unset, .unset, .unset, .unset, .unset]) rfl k) ?_
  refine own_st (t' := T1.setTop (mkF m 18 #[.val (.int p1), .val (.long q1), .second, .val (.int p2), .val (.int (own_max (1 : Int32) (p1 &&& (2147483647 : Int32)))), .val (.long (q1 &&& (8589934591 : Int64))), .second, .unset, .unset, .unset, .unset, .unset, .unset, .unset, .unset, .unset] [(.int p2)])) (fun _ k => XS.iloadN X1.here hx rfl (hb hby at_17) rfl k) ?_
  refine own_st (t' := T1.setTop (mkF m 20 #[.val (.int p1), .val (.long q1), .second, .val (.int p2), .val (.int (own_max (1 : Int32) (p1 &&& (2147483647 : Int32)))), .val (.long (q1 &&& (8589934591 : Int64))), .second, .unset, .unset, .unset, .unset, .unset, .unset, .unset, .unset, .unset] [(.int (536870911 : Int32)), (.int p2)])) (fun _ k => X1.ldcInt hx hown (mvT hZ (hw _ (List.mem_of_getElem? (i := 6) rfl))) (g := (mkF m 18 #[.val (.int p1), .val (.long q1), .second, .val (.int p2), .val (.int (own_max (1 : Int32) (p1 &&& (2147483647 : Int32)))), .val (.long (q1 &&& (8589934591 : Int64))), .second, .unset, .unset, .unset, .unset, .unset, .unset, .unset, .unset, .unset] [(.int p2)])) rfl (hb hby at_18) _ k) ?_
  refine own_st (t' := T1.setTop (mkF m 21 #[.val (.int p1), .val (.long q1), .second, .val (.int p2), .val (.int (own_max (1 : Int32) (p1 &&& (2147483647 : Int32)))), .val (.long (q1 &&& (8589934591 : Int64))), .second, .unset, .unset, .unset, .unset, .unset, .unset, .unset, .unset, .unset] [(.int (p2 &&& (536870911 : Int32)))])) (fun _ k => XS.iand X1.here hx rfl (hb hby at_20) rfl k) ?_
  refine own_st (t' := T1.setTop (mkF m 22 #[.val (.int p1), .val (.long q1), .second, .val (.int p2), .val (.int (own_max (1 : Int32) (p1 &&& (2147483647 : Int32)))), .val (.long (q1 &&& (8589934591 : Int64))), .second, .unset, .unset, .unset, .unset, .unset, .unset, .unset, .unset, .unset] [(.long ((p2 &&& (536870911 : Int32)).toInt64))])) (fun _ k => XS.i2l X1.here hx rfl (hb hby at_21) rfl k) ?_
  refine own_st (t' := T1.setTop (mkF m 24 #[.val (.int p1), .val (.long q1), .second, .val (.int p2), .val (.int (own_max (1 : Int32) (p1 &&& (2147483647 : Int32)))), .val (.long (q1 &&& (8589934591 : Int64))), .second, .val (.long ((p2 &&& (536870911 : Int32)).toInt64)), .second, .unset, .unset, .unset, .unset, .unset, .unset, .unset] [])) (fun _ k => XS.lstore X1.here hx rfl (hb hby at_22) rfl (l' := #[.val (.int p1), .val (.long q1), .second, .val (.int p2), .val (.int (own_max (1 : Int32) (p1 &&& (2147483647 : Int32)))), .val (.long (q1 &&& (8589934591 : Int64))), .second, .val (.long ((p2 &&& (536870911 : Int32)).toInt64)), .second, .unset, .unset, .unset, .unset, .unset, .unset, .unset]) rfl k) ?_
  have hb1 := own_rt p1
  have hb2 := own_ix q1
  have hb3 := own_kk p2
  generalize (own_max (1 : Int32) (p1 &&& (2147483647 : Int32))) = rt at hb1 hb2 hb3 ⊢
  generalize (q1 &&& (8589934591 : Int64)) = ix at hb1 hb2 hb3 ⊢
  generalize ((p2 &&& (536870911 : Int32)).toInt64) = kk at hb1 hb2 hb3 ⊢
  have hr : rt.toInt64 ≠ 0 := own_r0 hb1
  obtain ⟨T2, h2, X2, e2, E2, A2, D2, -, st2⟩ := newO X1 hx hZ hown (hw _ (List.mem_of_getElem? (i := 7) rfl)) (hw _ (List.mem_of_getElem? (i := 8) rfl)) (hw _ (List.mem_of_getElem? (i := 9) rfl)) e1 (g := (mkF m 24 #[.val (.int p1), .val (.long q1), .second, .val (.int p2), .val (.int rt), .val (.long ix), .second, .val (.long kk), .second, .unset, .unset, .unset, .unset, .unset, .unset, .unset] [])) rfl (hb hby at_24) (by decide) (by decide)
  obtain ⟨b2, g2⟩ : ∃ z, z = h0.size := ⟨_, rfl⟩
  rw [← g2] at A2 D2 st2
  have f2_Sta_com_example_grow_with_load_growwithload_replay_FixedRate_NANOS_PER_SECOND := S_N.ext E2
  have bg_b2 : n0 ≤ b2 := Nat.le_trans Z0 (Nat.le_of_eq g2.symm)
  have Z2 : n0 ≤ h2.size := Nat.le_trans Z0 E2.1
  have F2_rate : Fld Z h2 b2 "com/example/grow_with_load/growwithload/replay/FixedRate" "rate" "I" (.int (0 : Int32)) := D2 (Or.inr (hw _ (List.mem_of_getElem? (i := 17) rfl))) (ty := .int) (by decide)
  refine own_st (t' := T2.setTop (mkF m 27 #[.val (.int p1), .val (.long q1), .second, .val (.int p2), .val (.int rt), .val (.long ix), .second, .val (.long kk), .second, .unset, .unset, .unset, .unset, .unset, .unset, .unset] [(.ref b2)])) st2 ?_
  refine own_st (t' := T2.setTop (mkF m 28 #[.val (.int p1), .val (.long q1), .second, .val (.int p2), .val (.int rt), .val (.long ix), .second, .val (.long kk), .second, .unset, .unset, .unset, .unset, .unset, .unset, .unset] [(.ref b2), (.ref b2)])) (fun _ k => XS.dup X2.here hx rfl (hb hby at_27) rfl rfl k) ?_
  refine own_st (t' := T2.setTop (mkF m 30 #[.val (.int p1), .val (.long q1), .second, .val (.int p2), .val (.int rt), .val (.long ix), .second, .val (.long kk), .second, .unset, .unset, .unset, .unset, .unset, .unset, .unset] [(.int rt), (.ref b2), (.ref b2)])) (fun _ k => XS.iload X2.here hx rfl (hb hby at_28) rfl k) ?_
  obtain ⟨_, _, ⟨T3, L3, k3, n3⟩, -, X3, ⟨Lc3, hQ3, l3, y3, z3⟩, st3⟩ := X2.specialBack hx (y := (⟨"com/example/grow_with_load/growwithload/replay/FixedRate", "<init>", "(I)V"⟩ : MethodName)) rfl hown (mvT hZ (hw _ (List.mem_of_getElem? (i := 10) rfl))) (mvT hZ (hw _ (List.mem_of_getElem? (i := 11) rfl))) (mvT hZ (hw _ (List.mem_of_getElem? (i := 12) rfl))) (by decide) (backOf (W := 1) (own_rm2 l Z a0 hw [] b2 rt h2 n0 Z2 A2 F2_rate bg_b2 ) hZ (hw _ (List.mem_of_getElem? (i := 12) rfl)) (hw _ (List.mem_of_getElem? (i := 9) rfl)) (by decide) (by decide)) (g := (mkF m 30 #[.val (.int p1), .val (.long q1), .second, .val (.int p2), .val (.int rt), .val (.long ix), .second, .val (.long kk), .second, .unset, .unset, .unset, .unset, .unset, .unset, .unset] [(.int rt), (.ref b2), (.ref b2)])) rfl (by rw [hml]; rfl) (Steps.refl _) (a := b2) (argsL := [(.int rt)]) (rest := [(.ref b2)]) (lenOf own_rm0_pd1 rfl) rfl (by show 2 * 0 + _ ≤ _; exact Nat.le_of_eq rfl) (hb hby at_30) (fun _ _ => ⟨rfl, e2, (by decide : 0 + 0 + 1 + 0 ≤ _), (by decide : 0 + 0 + 1 + 0 ≤ _)⟩)
  dsimp only [Pt.U, Pt.locs, Pt.cells, Pt.slots] at X3 l3 y3 z3 st3 hQ3
  subst l3 y3 z3
  obtain ⟨rfl, N3q, K3q, g3e, g3f0⟩ := hQ3
  have N3 := Fr.app N1 N3q
  have f3_Sta_com_example_grow_with_load_growwithload_replay_FixedRate_NANOS_PER_SECOND := own_staK f2_Sta_com_example_grow_with_load_growwithload_replay_FixedRate_NANOS_PER_SECOND K3q A2
  have f3_Exa_b2 := A2.keep K3q
  have Z3 : n0 ≤ T3.heap.size := Nat.le_trans Z2 K3q.1
  refine own_tr (t' := T3.setTop (mkF m 33 #[.val (.int p1), .val (.long q1), .second, .val (.int p2), .val (.int rt), .val (.long ix), .second, .val (.long kk), .second, .unset, .unset, .unset, .unset, .unset, .unset, .unset] [(.ref b2)])) st3 ?_
  refine own_st (t' := T3.setTop (mkF m 35 #[.val (.int p1), .val (.long q1), .second, .val (.int p2), .val (.int rt), .val (.long ix), .second, .val (.long kk), .second, .val (.ref b2), .unset, .unset, .unset, .unset, .unset, .unset] [])) (fun _ k => XS.astore X3.here hx rfl (hb hby at_33) rfl rfl (l' := #[.val (.int p1), .val (.long q1), .second, .val (.int p2), .val (.int rt), .val (.long ix), .second, .val (.long kk), .second, .val (.ref b2), .unset, .unset, .unset, .unset, .unset, .unset]) rfl k) ?_
  refine own_st (t' := T3.setTop (mkF m 37 #[.val (.int p1), .val (.long q1), .second, .val (.int p2), .val (.int rt), .val (.long ix), .second, .val (.long kk), .second, .val (.ref b2), .unset, .unset, .unset, .unset, .unset, .unset] [(.ref b2)])) (fun _ k => XS.aload X3.here hx rfl (hb hby at_35) rfl rfl k) ?_
  refine own_st (t' := T3.setTop (mkF m 39 #[.val (.int p1), .val (.long q1), .second, .val (.int p2), .val (.int rt), .val (.long ix), .second, .val (.long kk), .second, .val (.ref b2), .unset, .unset, .unset, .unset, .unset, .unset] [(.long ix), (.ref b2)])) (fun _ k => XS.lload X3.here hx rfl (hb hby at_37) rfl k) ?_
  obtain ⟨cq4, kq4, q4a, q4b, q4c⟩ := isOf hZ rfl g3e
  obtain ⟨_, _, ⟨T4, L4, k4, n4⟩, -, X4, ⟨Lc4, hQ4, l4, y4, z4⟩, st4⟩ := X3.virtualBack hx (y := (⟨"com/example/grow_with_load/growwithload/replay/FixedRate", "dueNanos", "(J)J"⟩ : MethodName)) (z := (⟨"com/example/grow_with_load/growwithload/replay/FixedRate", "dueNanos", "(J)J"⟩ : MethodName)) hown (mvT hZ (hw _ (List.mem_of_getElem? (i := 18) rfl))) (mvT hZ (hw _ (List.mem_of_getElem? (i := 19) rfl))) (notFace_of_selects (args := #[]) (mvT hZ (hw _ (List.mem_of_getElem? (i := 21) rfl)))) (mvT hZ (hw _ (List.mem_of_getElem? (i := 21) rfl))) (mvT hZ (hw _ (List.mem_of_getElem? (i := 20) rfl))) (by decide) (backOf (W := 0) (own_rm3 l Z a0 hw [] b2 ix rt T3.heap n0 Z3 g3f0 f3_Sta_com_example_grow_with_load_growwithload_replay_FixedRate_NANOS_PER_SECOND hr) hZ (hw _ (List.mem_of_getElem? (i := 22) rfl)) (hw _ (List.mem_of_getElem? (i := 9) rfl)) (by decide) (by decide)) q4a q4c (g := (mkF m 39 #[.val (.int p1), .val (.long q1), .second, .val (.int p2), .val (.int rt), .val (.long ix), .second, .val (.long kk), .second, .val (.ref b2), .unset, .unset, .unset, .unset, .unset, .unset] [(.long ix), (.ref b2)])) rfl (by rw [hml]; rfl) (Steps.refl _) (argsL := [(.long ix)]) (rest := []) (lenOf own_rm0_pd2 rfl) rfl (by show 2 * 0 + _ ≤ _; exact Nat.le_of_eq rfl) (hb hby at_39) (fun _ _ => ⟨rfl, rfl, (by decide : 0 + 0 + 1 + 0 + 0 ≤ _), (by decide : 0 + 0 + 1 + 0 + 0 ≤ _)⟩)
  dsimp only [Pt.U, Pt.locs, Pt.cells, Pt.slots] at X4 l4 y4 z4 st4 hQ4
  subst l4 y4 z4
  obtain ⟨rfl, N4q, e4⟩ := hQ4
  have N4 := Fr.app N3 N4q
  refine own_tr (t' := T4.setTop (mkF m 42 #[.val (.int p1), .val (.long q1), .second, .val (.int p2), .val (.int rt), .val (.long ix), .second, .val (.long kk), .second, .val (.ref b2), .unset, .unset, .unset, .unset, .unset, .unset] [(.long (own_due rt ix))])) st4 ?_
  refine own_st (t' := T4.setTop (mkF m 44 #[.val (.int p1), .val (.long q1), .second, .val (.int p2), .val (.int rt), .val (.long ix), .second, .val (.long kk), .second, .val (.ref b2), .val (.long (own_due rt ix)), .second, .unset, .unset, .unset, .unset] [])) (fun _ k => XS.lstore X4.here hx rfl (hb hby at_42) rfl (l' := #[.val (.int p1), .val (.long q1), .second, .val (.int p2), .val (.int rt), .val (.long ix), .second, .val (.long kk), .second, .val (.ref b2), .val (.long (own_due rt ix)), .second, .unset, .unset, .unset, .unset]) rfl k) ?_
  refine own_st (t' := T4.setTop (mkF m 46 #[.val (.int p1), .val (.long q1), .second, .val (.int p2), .val (.int rt), .val (.long ix), .second, .val (.long kk), .second, .val (.ref b2), .val (.long (own_due rt ix)), .second, .unset, .unset, .unset, .unset] [(.ref b2)])) (fun _ k => XS.aload X4.here hx rfl (hb hby at_44) rfl rfl k) ?_
  refine own_st (t' := T4.setTop (mkF m 48 #[.val (.int p1), .val (.long q1), .second, .val (.int p2), .val (.int rt), .val (.long ix), .second, .val (.long kk), .second, .val (.ref b2), .val (.long (own_due rt ix)), .second, .unset, .unset, .unset, .unset] [(.long ix), (.ref b2)])) (fun _ k => XS.lload X4.here hx rfl (hb hby at_46) rfl k) ?_
  refine own_st (t' := T4.setTop (mkF m 50 #[.val (.int p1), .val (.long q1), .second, .val (.int p2), .val (.int rt), .val (.long ix), .second, .val (.long kk), .second, .val (.ref b2), .val (.long (own_due rt ix)), .second, .unset, .unset, .unset, .unset] [(.long kk), (.long ix), (.ref b2)])) (fun _ k => XS.lload X4.here hx rfl (hb hby at_48) rfl k) ?_
  refine own_st (t' := T4.setTop (mkF m 52 #[.val (.int p1), .val (.long q1), .second, .val (.int p2), .val (.int rt), .val (.long ix), .second, .val (.long kk), .second, .val (.ref b2), .val (.long (own_due rt ix)), .second, .unset, .unset, .unset, .unset] [(.int rt), (.long kk), (.long ix), (.ref b2)])) (fun _ k => XS.iload X4.here hx rfl (hb hby at_50) rfl k) ?_
  refine own_st (t' := T4.setTop (mkF m 53 #[.val (.int p1), .val (.long q1), .second, .val (.int p2), .val (.int rt), .val (.long ix), .second, .val (.long kk), .second, .val (.ref b2), .val (.long (own_due rt ix)), .second, .unset, .unset, .unset, .unset] [(.long (rt.toInt64)), (.long kk), (.long ix), (.ref b2)])) (fun _ k => XS.i2l X4.here hx rfl (hb hby at_52) rfl k) ?_
  refine own_st (t' := T4.setTop (mkF m 54 #[.val (.int p1), .val (.long q1), .second, .val (.int p2), .val (.int rt), .val (.long ix), .second, .val (.long kk), .second, .val (.ref b2), .val (.long (own_due rt ix)), .second, .unset, .unset, .unset, .unset] [(.long (kk * (rt.toInt64))), (.long ix), (.ref b2)])) (fun _ k => XS.lmul X4.here hx rfl (hb hby at_53) rfl k) ?_
  refine own_st (t' := T4.setTop (mkF m 55 #[.val (.int p1), .val (.long q1), .second, .val (.int p2), .val (.int rt), .val (.long ix), .second, .val (.long kk), .second, .val (.ref b2), .val (.long (own_due rt ix)), .second, .unset, .unset, .unset, .unset] [(.long (ix + (kk * (rt.toInt64)))), (.ref b2)])) (fun _ k => XS.ladd X4.here hx rfl (hb hby at_54) rfl k) ?_
  obtain ⟨cq5, kq5, q5a, q5b, q5c⟩ := isOf hZ e4 g3e
  obtain ⟨_, _, ⟨T5, L5, k5, n5⟩, -, X5, ⟨Lc5, hQ5, l5, y5, z5⟩, st5⟩ := X4.virtualBack hx (y := (⟨"com/example/grow_with_load/growwithload/replay/FixedRate", "dueNanos", "(J)J"⟩ : MethodName)) (z := (⟨"com/example/grow_with_load/growwithload/replay/FixedRate", "dueNanos", "(J)J"⟩ : MethodName)) hown (mvT hZ (hw _ (List.mem_of_getElem? (i := 18) rfl))) (mvT hZ (hw _ (List.mem_of_getElem? (i := 19) rfl))) (notFace_of_selects (args := #[]) (mvT hZ (hw _ (List.mem_of_getElem? (i := 21) rfl)))) (mvT hZ (hw _ (List.mem_of_getElem? (i := 21) rfl))) (mvT hZ (hw _ (List.mem_of_getElem? (i := 20) rfl))) (by decide) (backOf (W := 0) (own_rm3 l Z a0 hw [] b2 (ix + (kk * (rt.toInt64))) rt T3.heap n0 Z3 g3f0 f3_Sta_com_example_grow_with_load_growwithload_replay_FixedRate_NANOS_PER_SECOND hr) hZ (hw _ (List.mem_of_getElem? (i := 22) rfl)) (hw _ (List.mem_of_getElem? (i := 9) rfl)) (by decide) (by decide)) q5a q5c (g := (mkF m 55 #[.val (.int p1), .val (.long q1), .second, .val (.int p2), .val (.int rt), .val (.long ix), .second, .val (.long kk), .second, .val (.ref b2), .val (.long (own_due rt ix)), .second, .unset, .unset, .unset, .unset] [(.long (ix + (kk * (rt.toInt64)))), (.ref b2)])) rfl (by rw [hml]; rfl) (Steps.refl _) (argsL := [(.long (ix + (kk * (rt.toInt64))))]) (rest := []) (lenOf own_rm0_pd2 rfl) rfl (by show 2 * 0 + _ ≤ _; exact Nat.le_of_eq rfl) (hb hby at_55) (fun _ _ => ⟨rfl, e4, (by decide : 0 + 0 + 1 + 0 + 0 + 0 ≤ _), (by decide : 0 + 0 + 1 + 0 + 0 + 0 ≤ _)⟩)
  dsimp only [Pt.U, Pt.locs, Pt.cells, Pt.slots] at X5 l5 y5 z5 st5 hQ5
  subst l5 y5 z5
  obtain ⟨rfl, N5q, e5⟩ := hQ5
  have N5 := Fr.app N4 N5q
  refine own_tr (t' := T5.setTop (mkF m 58 #[.val (.int p1), .val (.long q1), .second, .val (.int p2), .val (.int rt), .val (.long ix), .second, .val (.long kk), .second, .val (.ref b2), .val (.long (own_due rt ix)), .second, .unset, .unset, .unset, .unset] [(.long (own_due rt (ix + (kk * (rt.toInt64)))))])) st5 ?_
  refine own_st (t' := T5.setTop (mkF m 60 #[.val (.int p1), .val (.long q1), .second, .val (.int p2), .val (.int rt), .val (.long ix), .second, .val (.long kk), .second, .val (.ref b2), .val (.long (own_due rt ix)), .second, .val (.long (own_due rt (ix + (kk * (rt.toInt64))))), .second, .unset, .unset] [])) (fun _ k => XS.lstore X5.here hx rfl (hb hby at_58) rfl (l' := #[.val (.int p1), .val (.long q1), .second, .val (.int p2), .val (.int rt), .val (.long ix), .second, .val (.long kk), .second, .val (.ref b2), .val (.long (own_due rt ix)), .second, .val (.long (own_due rt (ix + (kk * (rt.toInt64))))), .second, .unset, .unset]) rfl k) ?_
  refine own_st (t' := T5.setTop (mkF m 62 #[.val (.int p1), .val (.long q1), .second, .val (.int p2), .val (.int rt), .val (.long ix), .second, .val (.long kk), .second, .val (.ref b2), .val (.long (own_due rt ix)), .second, .val (.long (own_due rt (ix + (kk * (rt.toInt64))))), .second, .unset, .unset] [(.long ix)])) (fun _ k => XS.lload X5.here hx rfl (hb hby at_60) rfl k) ?_
  refine own_st (t' := T5.setTop (mkF m 65 #[.val (.int p1), .val (.long q1), .second, .val (.int p2), .val (.int rt), .val (.long ix), .second, .val (.long kk), .second, .val (.ref b2), .val (.long (own_due rt ix)), .second, .val (.long (own_due rt (ix + (kk * (rt.toInt64))))), .second, .unset, .unset] [(.long (1000000000 : Int64)), (.long ix)])) (fun _ k => X5.ldc2Long hx hown (mvT hZ (hw _ (List.mem_of_getElem? (i := 25) rfl))) (g := (mkF m 62 #[.val (.int p1), .val (.long q1), .second, .val (.int p2), .val (.int rt), .val (.long ix), .second, .val (.long kk), .second, .val (.ref b2), .val (.long (own_due rt ix)), .second, .val (.long (own_due rt (ix + (kk * (rt.toInt64))))), .second, .unset, .unset] [(.long ix)])) rfl (hb hby at_62) _ k) ?_
  refine own_st (t' := T5.setTop (mkF m 66 #[.val (.int p1), .val (.long q1), .second, .val (.int p2), .val (.int rt), .val (.long ix), .second, .val (.long kk), .second, .val (.ref b2), .val (.long (own_due rt ix)), .second, .val (.long (own_due rt (ix + (kk * (rt.toInt64))))), .second, .unset, .unset] [(.long (ix * (1000000000 : Int64)))])) (fun _ k => XS.lmul X5.here hx rfl (hb hby at_65) rfl k) ?_
  refine own_st (t' := T5.setTop (mkF m 68 #[.val (.int p1), .val (.long q1), .second, .val (.int p2), .val (.int rt), .val (.long ix), .second, .val (.long kk), .second, .val (.ref b2), .val (.long (own_due rt ix)), .second, .val (.long (own_due rt (ix + (kk * (rt.toInt64))))), .second, .unset, .unset] [(.int rt), (.long (ix * (1000000000 : Int64)))])) (fun _ k => XS.iload X5.here hx rfl (hb hby at_66) rfl k) ?_
  refine own_st (t' := T5.setTop (mkF m 69 #[.val (.int p1), .val (.long q1), .second, .val (.int p2), .val (.int rt), .val (.long ix), .second, .val (.long kk), .second, .val (.ref b2), .val (.long (own_due rt ix)), .second, .val (.long (own_due rt (ix + (kk * (rt.toInt64))))), .second, .unset, .unset] [(.long (rt.toInt64)), (.long (ix * (1000000000 : Int64)))])) (fun _ k => XS.i2l X5.here hx rfl (hb hby at_68) rfl k) ?_
  refine own_st (t' := T5.setTop (mkF m 70 #[.val (.int p1), .val (.long q1), .second, .val (.int p2), .val (.int rt), .val (.long ix), .second, .val (.long kk), .second, .val (.ref b2), .val (.long (own_due rt ix)), .second, .val (.long (own_due rt (ix + (kk * (rt.toInt64))))), .second, .unset, .unset] [(.long ((ix * (1000000000 : Int64)) / (rt.toInt64)))])) (fun _ k => XS.ldiv X5.here hx rfl (hb hby at_69) rfl hr k) ?_
  refine own_st (t' := T5.setTop (mkF m 72 #[.val (.int p1), .val (.long q1), .second, .val (.int p2), .val (.int rt), .val (.long ix), .second, .val (.long kk), .second, .val (.ref b2), .val (.long (own_due rt ix)), .second, .val (.long (own_due rt (ix + (kk * (rt.toInt64))))), .second, .val (.long ((ix * (1000000000 : Int64)) / (rt.toInt64))), .second] [])) (fun _ k => XS.lstore X5.here hx rfl (hb hby at_70) rfl (l' := #[.val (.int p1), .val (.long q1), .second, .val (.int p2), .val (.int rt), .val (.long ix), .second, .val (.long kk), .second, .val (.ref b2), .val (.long (own_due rt ix)), .second, .val (.long (own_due rt (ix + (kk * (rt.toInt64))))), .second, .val (.long ((ix * (1000000000 : Int64)) / (rt.toInt64))), .second]) rfl k) ?_
  refine own_st (t' := T5.setTop (mkF m 74 #[.val (.int p1), .val (.long q1), .second, .val (.int p2), .val (.int rt), .val (.long ix), .second, .val (.long kk), .second, .val (.ref b2), .val (.long (own_due rt ix)), .second, .val (.long (own_due rt (ix + (kk * (rt.toInt64))))), .second, .val (.long ((ix * (1000000000 : Int64)) / (rt.toInt64))), .second] [(.long (own_due rt ix))])) (fun _ k => XS.lload X5.here hx rfl (hb hby at_72) rfl k) ?_
  refine own_st (t' := T5.setTop (mkF m 76 #[.val (.int p1), .val (.long q1), .second, .val (.int p2), .val (.int rt), .val (.long ix), .second, .val (.long kk), .second, .val (.ref b2), .val (.long (own_due rt ix)), .second, .val (.long (own_due rt (ix + (kk * (rt.toInt64))))), .second, .val (.long ((ix * (1000000000 : Int64)) / (rt.toInt64))), .second] [(.long ((ix * (1000000000 : Int64)) / (rt.toInt64))), (.long (own_due rt ix))])) (fun _ k => XS.lload X5.here hx rfl (hb hby at_74) rfl k) ?_
  refine own_st (t' := T5.setTop (mkF m 77 #[.val (.int p1), .val (.long q1), .second, .val (.int p2), .val (.int rt), .val (.long ix), .second, .val (.long kk), .second, .val (.ref b2), .val (.long (own_due rt ix)), .second, .val (.long (own_due rt (ix + (kk * (rt.toInt64))))), .second, .val (.long ((ix * (1000000000 : Int64)) / (rt.toInt64))), .second] [(.int (lcmpW (own_due rt ix) ((ix * (1000000000 : Int64)) / (rt.toInt64))))])) (fun _ k => XS.lcmp X5.here hx rfl (hb hby at_76) rfl k) ?_
  refine own_st (t' := T5.setTop (mkF m 80 #[.val (.int p1), .val (.long q1), .second, .val (.int p2), .val (.int rt), .val (.long ix), .second, .val (.long kk), .second, .val (.ref b2), .val (.long (own_due rt ix)), .second, .val (.long (own_due rt (ix + (kk * (rt.toInt64))))), .second, .val (.long ((ix * (1000000000 : Int64)) / (rt.toInt64))), .second] [])) (fun _ k => XS.ifNo X5.here hx rfl (hb hby at_77) rfl ((if0 _ _).trans (teq (own_lc (own_d0 hb1 hb2))).2) k) ?_
  refine own_st (t' := T5.setTop (mkF m 82 #[.val (.int p1), .val (.long q1), .second, .val (.int p2), .val (.int rt), .val (.long ix), .second, .val (.long kk), .second, .val (.ref b2), .val (.long (own_due rt ix)), .second, .val (.long (own_due rt (ix + (kk * (rt.toInt64))))), .second, .val (.long ((ix * (1000000000 : Int64)) / (rt.toInt64))), .second] [(.long (own_due rt (ix + (kk * (rt.toInt64)))))])) (fun _ k => XS.lload X5.here hx rfl (hb hby at_80) rfl k) ?_
  refine own_st (t' := T5.setTop (mkF m 84 #[.val (.int p1), .val (.long q1), .second, .val (.int p2), .val (.int rt), .val (.long ix), .second, .val (.long kk), .second, .val (.ref b2), .val (.long (own_due rt ix)), .second, .val (.long (own_due rt (ix + (kk * (rt.toInt64))))), .second, .val (.long ((ix * (1000000000 : Int64)) / (rt.toInt64))), .second] [(.long (own_due rt ix)), (.long (own_due rt (ix + (kk * (rt.toInt64)))))])) (fun _ k => XS.lload X5.here hx rfl (hb hby at_82) rfl k) ?_
  refine own_st (t' := T5.setTop (mkF m 86 #[.val (.int p1), .val (.long q1), .second, .val (.int p2), .val (.int rt), .val (.long ix), .second, .val (.long kk), .second, .val (.ref b2), .val (.long (own_due rt ix)), .second, .val (.long (own_due rt (ix + (kk * (rt.toInt64))))), .second, .val (.long ((ix * (1000000000 : Int64)) / (rt.toInt64))), .second] [(.long kk), (.long (own_due rt ix)), (.long (own_due rt (ix + (kk * (rt.toInt64)))))])) (fun _ k => XS.lload X5.here hx rfl (hb hby at_84) rfl k) ?_
  refine own_st (t' := T5.setTop (mkF m 89 #[.val (.int p1), .val (.long q1), .second, .val (.int p2), .val (.int rt), .val (.long ix), .second, .val (.long kk), .second, .val (.ref b2), .val (.long (own_due rt ix)), .second, .val (.long (own_due rt (ix + (kk * (rt.toInt64))))), .second, .val (.long ((ix * (1000000000 : Int64)) / (rt.toInt64))), .second] [(.long (1000000000 : Int64)), (.long kk), (.long (own_due rt ix)), (.long (own_due rt (ix + (kk * (rt.toInt64)))))])) (fun _ k => X5.ldc2Long hx hown (mvT hZ (hw _ (List.mem_of_getElem? (i := 25) rfl))) (g := (mkF m 86 #[.val (.int p1), .val (.long q1), .second, .val (.int p2), .val (.int rt), .val (.long ix), .second, .val (.long kk), .second, .val (.ref b2), .val (.long (own_due rt ix)), .second, .val (.long (own_due rt (ix + (kk * (rt.toInt64))))), .second, .val (.long ((ix * (1000000000 : Int64)) / (rt.toInt64))), .second] [(.long kk), (.long (own_due rt ix)), (.long (own_due rt (ix + (kk * (rt.toInt64)))))])) rfl (hb hby at_86) _ k) ?_
  refine own_st (t' := T5.setTop (mkF m 90 #[.val (.int p1), .val (.long q1), .second, .val (.int p2), .val (.int rt), .val (.long ix), .second, .val (.long kk), .second, .val (.ref b2), .val (.long (own_due rt ix)), .second, .val (.long (own_due rt (ix + (kk * (rt.toInt64))))), .second, .val (.long ((ix * (1000000000 : Int64)) / (rt.toInt64))), .second] [(.long (kk * (1000000000 : Int64))), (.long (own_due rt ix)), (.long (own_due rt (ix + (kk * (rt.toInt64)))))])) (fun _ k => XS.lmul X5.here hx rfl (hb hby at_89) rfl k) ?_
  refine own_st (t' := T5.setTop (mkF m 91 #[.val (.int p1), .val (.long q1), .second, .val (.int p2), .val (.int rt), .val (.long ix), .second, .val (.long kk), .second, .val (.ref b2), .val (.long (own_due rt ix)), .second, .val (.long (own_due rt (ix + (kk * (rt.toInt64))))), .second, .val (.long ((ix * (1000000000 : Int64)) / (rt.toInt64))), .second] [(.long ((own_due rt ix) + (kk * (1000000000 : Int64)))), (.long (own_due rt (ix + (kk * (rt.toInt64)))))])) (fun _ k => XS.ladd X5.here hx rfl (hb hby at_90) rfl k) ?_
  refine own_st (t' := T5.setTop (mkF m 92 #[.val (.int p1), .val (.long q1), .second, .val (.int p2), .val (.int rt), .val (.long ix), .second, .val (.long kk), .second, .val (.ref b2), .val (.long (own_due rt ix)), .second, .val (.long (own_due rt (ix + (kk * (rt.toInt64))))), .second, .val (.long ((ix * (1000000000 : Int64)) / (rt.toInt64))), .second] [(.int (lcmpW (own_due rt (ix + (kk * (rt.toInt64)))) ((own_due rt ix) + (kk * (1000000000 : Int64)))))])) (fun _ k => XS.lcmp X5.here hx rfl (hb hby at_91) rfl k) ?_
  refine own_st (t' := T5.setTop (mkF m 95 #[.val (.int p1), .val (.long q1), .second, .val (.int p2), .val (.int rt), .val (.long ix), .second, .val (.long kk), .second, .val (.ref b2), .val (.long (own_due rt ix)), .second, .val (.long (own_due rt (ix + (kk * (rt.toInt64))))), .second, .val (.long ((ix * (1000000000 : Int64)) / (rt.toInt64))), .second] [])) (fun _ k => XS.ifNo X5.here hx rfl (hb hby at_92) rfl ((if0 _ _).trans (teq (own_lc (own_d1 hb1 hb2 hb3))).2) k) ?_
  refine own_st (t' := T5.setTop (mkF m 96 #[.val (.int p1), .val (.long q1), .second, .val (.int p2), .val (.int rt), .val (.long ix), .second, .val (.long kk), .second, .val (.ref b2), .val (.long (own_due rt ix)), .second, .val (.long (own_due rt (ix + (kk * (rt.toInt64))))), .second, .val (.long ((ix * (1000000000 : Int64)) / (rt.toInt64))), .second] [(.int (1 : Int32))])) (fun _ k => XS.iconst X5.here hx rfl (hb hby at_95) k) ?_
  refine own_st (t' := T5.setTop (mkF m 100 #[.val (.int p1), .val (.long q1), .second, .val (.int p2), .val (.int rt), .val (.long ix), .second, .val (.long kk), .second, .val (.ref b2), .val (.long (own_due rt ix)), .second, .val (.long (own_due rt (ix + (kk * (rt.toInt64))))), .second, .val (.long ((ix * (1000000000 : Int64)) / (rt.toInt64))), .second] [(.int (1 : Int32))])) (fun _ k => XS.goto X5.here hx rfl (pc0 := 96) (pc' := 100) rfl (hb hby at_96) (by decide) (by decide) k) ?_
  have hv6 : (1 : Int32) = (1 : Int32) := rfl
  obtain ⟨fs, hr, hrun, hended, hW, hsame⟩ := X5.leave (v := some (.int (1 : Int32))) (fun h => by rw [Bd.returns] at h; cases h)
  exact ⟨_, _, retN X5 hx (t := .boolean) Bd.returns (by simp) (hb hby at_100) hr, hrun, hended, hP _ _ ⟨_, _, rfl, ⟨(congrArg (fun z => some (Value.int z)) hv6), N5⟩, ⟨_, rfl⟩, hW, hsame.mono (by decide) (by decide)⟩⟩

set_option maxRecDepth 65536 in
set_option maxHeartbeats 40000000 in
theorem comes_1 {Post : Tables → Env → Array Value → State → Outcome → State → Prop} (hpost : ∀ tb e args s v u, (limb_1_1.after args s (.returned v) u = true ∧ limb_1_2.after args s (.returned v) u = true ∧ True) → FrameEnd s (.returned v) u (Jvm.fieldLocs frame_1_writes args s ++ Jvm.arrayLocs frame_1_arrays args s ++ Jvm.staticLocs frame_1_statics s) 16 128 → Post tb e args s (.returned v) u) :
    ArmFor flags0 classFile x code maxLocals ret World_1 tables_1 room_1 Calls_1 rest_1 Pre_1 Post := by
  intro l hfl _ _ p e ha hc hk s m args below hf hA hF happ hP
  obtain ⟨hcalls, hrest, hpre⟩ := hP
  obtain ⟨-, -, -, hnamed, -, -, -, hat⟩ := (Spec.applies_iff hf).mp happ
  obtain ⟨hg, hn⟩ := and_e (Cond.before_iff.mp (show (Jvm.Cond.and given_1 narrow_1).before args s = true from hpre))
  obtain ⟨hcnt, hg0⟩ := and_e hg
  obtain ⟨ga0, hg1⟩ := and_e hg0
  obtain ⟨ga1, hg2⟩ := and_e hg1
  obtain ⟨w0, w1, w2, rfl⟩ : ∃ w0 w1 w2 : Value, args = #[w0, w1, w2] := by
    have hs : args.size = 3 := by simpa [Cond.value, given_1] using hcnt
    obtain ⟨L⟩ := args
    match L, hs with
    | [w0, w1, w2], _ => exact ⟨w0, w1, w2, rfl⟩
  have hw := fun d (hd : d ∈ tables_1) => atoms_spec (ws := Jvm.Cond.code x code maxLocals ret :: tables_1) hat d (List.mem_cons_of_mem _ hd)
  have hfit : Fit s := fun {y c} hc i hi => by
    obtain ⟨ha, rfl⟩ := Array.getElem?_eq_some_iff.mp hc
    have q := List.all_eq_true.mp ((Array.all_eq_true_iff_forall_mem.mp hF) _ (Array.getElem_mem ha)) i (List.mem_range.mpr hi)
    simpa [Array.getElem?_eq_getElem hi] using q
  obtain ⟨i0, ei0⟩ := is_v ga0
  obtain rfl : w0 = (.int i0) := Option.some.inj ei0
  obtain ⟨i1, ei1⟩ := isL_v ga1
  obtain rfl : w1 = (.long i1) := Option.some.inj ei1
  obtain ⟨i2, ei2⟩ := is_v hg2
  obtain rfl : w2 = (.int i2) := Option.some.inj ei2
  have SN := own_staL hn (Or.inr ⟨(hw _ (List.mem_of_getElem? (i := 9) rfl)), (hw _ (List.mem_of_getElem? (i := 24) rfl))⟩)
  obtain ⟨n, o, h1, h2, h3, _, L, rfl, ⟨rfl, N⟩, hq⟩ := own_rm0 l s _ hw tables_1 i0 i1 i2  s.heap s.heap.size (Nat.le_refl _) SN p e ha hc hk s m _ below hf ((Spec.applies_iff_loose hf).mp happ).1 ⟨rfl, State.Warmed39.refl s, rfl⟩ trivial
  refine ⟨n, _, h1, h2, h3, hpost _ _ _ _ _ _ ⟨Cond.after_iff.mpr rfl, Cond.after_iff.mpr (eq_i res_at (Term.int_eval (1)) rfl), trivial⟩ ⟨hq.1, hq.2.1, (hq.2.2.sift fun y hy => Or.inr (N y hy)).mono (by decide) (by decide)⟩⟩
theorem main_1_1 : Claimed_1_1 := comes_1 fun _ _ _ _ _ _ h hF => ⟨h.1, hF⟩
theorem main_1_2 : Claimed_1_2 := comes_1 fun _ _ _ _ _ _ h hF => ⟨h.2.1, hF⟩
end Jvm.Pilot.@@N@@
namespace Jvm.Pilot.@@N@@
open Jvm Jvm.ClassFile Sem Op Lib Jvm.Free Jvm.Stand Jvm.Pilot.@@N@@.Jvm.D
/-! MADE BY PROGRAM (witnessworld.py) out of the Statement's table words and the real class files: 11 classes; the members and pool entries that the words name. The judged class is class 1, her method 1. -/
namespace start1
open Jvm.ClassFile
def u (s : String) : CpInfo := .utf8 (stringToUtf16 s)
/-- a pool by its gaps: so many unusable entries, then the entry; so many at the end -/
def gap : Nat → List CpInfo → List CpInfo
  | 0, r => r
  | n + 1, r => .unusable :: gap n r
def poolList (es : List (Nat × CpInfo)) (last : Nat) : List CpInfo := es.foldr (fun e r => gap e.1 (e.2 :: r)) (gap last [])
def pool (es : List (Nat × CpInfo)) (last : Nat) : Array CpInfo := ⟨poolList es last⟩
def fileOf (pool : Array CpInfo) (this : Nat) (attrs : Array Attribute := #[]) (ms : Array MethodInfo := #[]) (fl : Nat := 33) (sup : Nat := 0) (ifs : Array Nat := #[]) (fds : Array FieldInfo := #[]) : ClassFile where
  minorVersion := 0
  majorVersion := 65
  constantPool := pool
  accessFlags := fl
  thisClass := this
  superClass := sup
  interfaces := ifs
  fields := fds
  methods := ms
  attributes := attrs
def plain (name : String) (sup : Option ClassId) : Class where
  name := name
  kind := .ordinary
  loader := none
  accessFlags := 33
  super := sup
  interfaces := #[]
  cf := none
  fields := #[]
  methods := #[]
  instanceTypes := #[]
  staticTypes := #[]
  resolved := #[]
  callSites := []
  init := .initialized
  statics := none
  mirror := none

def pool0 : Array CpInfo := pool [(5, u "<init>"), (0, u "()V"), (1, .class_ 10), (1, u "java/lang/Object")] 113

def k0c0 : Code := { maxStack := 0, maxLocals := 1, code := object_method_1_code, exceptionTable := #[], attributes := #[] }
def k0m0 : Method := { name := "<init>", desc := "()V", sig := { parameters := [], returnType := none }, accessFlags := 1, code := some k0c0 }
/-- java/lang/Object -/
def k0 : Class := { plain "java/lang/Object" none with
  accessFlags := 33
  interfaces := #[]
  cf := some (fileOf pool0 8 #[] #[{ accessFlags := 1, nameIndex := 5, descriptorIndex := 6, attributes := #[] }] 33 0 #[] #[])
  fields := #[]
  methods := #[k0m0]
  instanceTypes := #[]
  staticTypes := #[]
  resolved := Array.replicate 124 none
  statics := none }

def pool1 : Array CpInfo := pool [(2, .class_ 4), (1, u "java/lang/Object"), (0, u "<init>"), (0, u "()V"), (0, .integer 2147483647), (0, .methodref 9 10), (0, .class_ 11), (0, .nameAndType 12 13), (0, u "java/lang/Math"), (0, u "max"), (0, u "(II)I"), (0, .long 8589934591), (1, .integer 536870911), (0, .class_ 18), (0, u "com/example/grow_with_load/growwithload/replay/FixedRate"), (0, .methodref 17 20), (0, .nameAndType 5 21), (0, u "(I)V"), (0, .methodref 17 23), (0, .nameAndType 24 25), (0, u "dueNanos"), (0, u "(J)J"), (0, .long 1000000000), (1, .class_ 29), (0, u "com/example/grow_with_load/growwithload/replay/FixedRateDueNanosPinLaw"), (2, u "law"), (0, u "(IJI)Z")] 3

def k1m0 : Method := { name := "<init>", desc := "()V", sig := { parameters := [], returnType := none }, accessFlags := 1, code := none }
def k1c1 : Code := { maxStack := 8, maxLocals := 16, code := code, exceptionTable := #[], attributes := #[] }
def k1m1 : Method := { name := "law", desc := "(IJI)Z", sig := { parameters := [.int, .long, .int], returnType := some .boolean }, accessFlags := 9, code := some k1c1 }
/-- com/example/grow_with_load/growwithload/replay/FixedRateDueNanosPinLaw -/
def k1 : Class := { plain "com/example/grow_with_load/growwithload/replay/FixedRateDueNanosPinLaw" (some 0) with
  accessFlags := 49
  interfaces := #[]
  cf := some (fileOf pool1 28 #[] #[{ accessFlags := 1, nameIndex := 5, descriptorIndex := 6, attributes := #[] }, { accessFlags := 9, nameIndex := 32, descriptorIndex := 33, attributes := #[] }] 49 2 #[] #[])
  fields := #[]
  methods := #[k1m0, k1m1]
  instanceTypes := #[]
  staticTypes := #[]
  resolved := Array.replicate 37 none
  statics := none }

def pool2 : Array CpInfo := pool [(1, .class_ 2), (0, u "java/lang/Math"), (1, .class_ 6), (1, u "java/lang/Object"), (0, u "<init>"), (0, u "()V"), (89, .class_ 100), (1, u "java/lang/Math$RandomNumberGeneratorHolder"), (71, u "negativeZeroFloatBits"), (0, u "J"), (2, u "negativeZeroDoubleBits"), (21, u "max"), (46, u "$assertionsDisabled"), (0, u "Z"), (88, u "(II)I"), (2, u "twoToTheDoubleScaleDown"), (0, u "D"), (4, u "twoToTheDoubleScaleUp"), (9, u "E"), (3, u "PI"), (2, u "TAU"), (2, u "DEGREES_TO_RADIANS"), (0, u "RADIANS_TO_DEGREES")] 94

def k2m0 : Method := { name := "<init>", desc := "()V", sig := { parameters := [], returnType := none }, accessFlags := 2, code := none }
def k2c1 : Code := { maxStack := 2, maxLocals := 2, code := jdk_29_method_65_code, exceptionTable := #[], attributes := #[] }
def k2m1 : Method := { name := "max", desc := "(II)I", sig := { parameters := [.int, .int], returnType := some .int }, accessFlags := 9, code := some k2c1 }
/-- java/lang/Math -/
def k2 : Class := { plain "java/lang/Math" (some 0) with
  accessFlags := 49
  interfaces := #[]
  cf := some (fileOf pool2 1 #[.nestMembers #[98]] #[{ accessFlags := 2, nameIndex := 7, descriptorIndex := 8, attributes := #[] }, { accessFlags := 9, nameIndex := 198, descriptorIndex := 335, attributes := #[] }] 49 4 #[] #[{ accessFlags := 25, nameIndex := 354, descriptorIndex := 339, attributes := #[] }, { accessFlags := 25, nameIndex := 358, descriptorIndex := 339, attributes := #[] }, { accessFlags := 25, nameIndex := 361, descriptorIndex := 339, attributes := #[] }, { accessFlags := 26, nameIndex := 364, descriptorIndex := 339, attributes := #[] }, { accessFlags := 26, nameIndex := 365, descriptorIndex := 339, attributes := #[] }, { accessFlags := 26, nameIndex := 172, descriptorIndex := 173, attributes := #[] }, { accessFlags := 26, nameIndex := 176, descriptorIndex := 173, attributes := #[] }, { accessFlags := 8, nameIndex := 344, descriptorIndex := 339, attributes := #[] }, { accessFlags := 8, nameIndex := 338, descriptorIndex := 339, attributes := #[] }, { accessFlags := 4120, nameIndex := 245, descriptorIndex := 246, attributes := #[] }])
  fields := #[{ name := "E", type := .double, accessFlags := 25, slot := 0, constantValue := 0 }, { name := "PI", type := .double, accessFlags := 25, slot := 1, constantValue := 0 }, { name := "TAU", type := .double, accessFlags := 25, slot := 2, constantValue := 0 }, { name := "DEGREES_TO_RADIANS", type := .double, accessFlags := 26, slot := 3, constantValue := 0 }, { name := "RADIANS_TO_DEGREES", type := .double, accessFlags := 26, slot := 4, constantValue := 0 }, { name := "negativeZeroFloatBits", type := .long, accessFlags := 26, slot := 5, constantValue := 0 }, { name := "negativeZeroDoubleBits", type := .long, accessFlags := 26, slot := 6, constantValue := 0 }, { name := "twoToTheDoubleScaleUp", type := .double, accessFlags := 8, slot := 7, constantValue := 0 }, { name := "twoToTheDoubleScaleDown", type := .double, accessFlags := 8, slot := 8, constantValue := 0 }, { name := "$assertionsDisabled", type := .boolean, accessFlags := 4120, slot := 9, constantValue := 0 }]
  methods := #[k2m0, k2m1]
  instanceTypes := #[]
  staticTypes := #[.double, .double, .double, .double, .double, .long, .long, .double, .double, .boolean]
  resolved := Array.replicate 460 none
  statics := none }

def pool3 : Array CpInfo := pool [(1, .class_ 2), (0, u "com/example/grow_with_load/growwithload/replay/Pace"), (0, .class_ 4), (0, u "java/lang/Object")] 8

/-- com/example/grow_with_load/growwithload/replay/Pace -/
def k3 : Class := { plain "com/example/grow_with_load/growwithload/replay/Pace" (some 0) with
  accessFlags := 1536
  interfaces := #[]
  cf := some (fileOf pool3 1 #[] #[] 1536 3 #[] #[])
  fields := #[]
  methods := #[]
  instanceTypes := #[]
  staticTypes := #[]
  resolved := Array.replicate 13 none
  statics := none }

def pool4 : Array CpInfo := pool [(1, .methodref 2 3), (0, .class_ 4), (0, .nameAndType 5 6), (0, u "java/lang/Object"), (0, u "<init>"), (0, u "()V"), (0, .fieldref 8 9), (0, .class_ 10), (0, .nameAndType 11 12), (0, u "com/example/grow_with_load/growwithload/replay/FixedRate"), (0, u "rate"), (0, u "I"), (0, .fieldref 8 14), (0, .nameAndType 15 16), (0, u "NANOS_PER_SECOND"), (0, u "J"), (15, u "(J)J"), (0, .class_ 34), (0, u "com/example/grow_with_load/growwithload/replay/Pace"), (0, u "(I)V"), (2, u "dueNanos")] 6

def k4c0 : Code := { maxStack := 2, maxLocals := 2, code := prog_33_method_1_code, exceptionTable := #[], attributes := #[] }
def k4m0 : Method := { name := "<init>", desc := "(I)V", sig := { parameters := [.int], returnType := none }, accessFlags := 0, code := some k4c0 }
def k4c1 : Code := { maxStack := 6, maxLocals := 3, code := prog_33_method_2_code, exceptionTable := #[], attributes := #[] }
def k4m1 : Method := { name := "dueNanos", desc := "(J)J", sig := { parameters := [.long], returnType := some .long }, accessFlags := 1, code := some k4c1 }
/-- com/example/grow_with_load/growwithload/replay/FixedRate -/
def k4 : Class := { plain "com/example/grow_with_load/growwithload/replay/FixedRate" (some 0) with
  accessFlags := 48
  interfaces := #[3]
  cf := some (fileOf pool4 8 #[] #[{ accessFlags := 0, nameIndex := 5, descriptorIndex := 35, attributes := #[] }, { accessFlags := 1, nameIndex := 38, descriptorIndex := 32, attributes := #[] }] 48 2 #[33] #[{ accessFlags := 26, nameIndex := 15, descriptorIndex := 16, attributes := #[] }, { accessFlags := 18, nameIndex := 11, descriptorIndex := 12, attributes := #[] }])
  fields := #[{ name := "NANOS_PER_SECOND", type := .long, accessFlags := 26, slot := 0, constantValue := 0 }, { name := "rate", type := .int, accessFlags := 18, slot := 0, constantValue := 0 }]
  methods := #[k4m0, k4m1]
  instanceTypes := #[.int]
  staticTypes := #[.long]
  resolved := Array.replicate 45 none
  statics := some 0 }

def pool5 : Array CpInfo := pool [(1, u "java/lang/Cloneable"), (0, .class_ 1), (0, u "java/lang/Object"), (0, .class_ 3)] 3

/-- java/lang/Cloneable -/
def k5 : Class := { plain "java/lang/Cloneable" (some 0) with
  accessFlags := 1537
  interfaces := #[]
  cf := some (fileOf pool5 2 #[] #[] 1537 4 #[] #[])
  fields := #[]
  methods := #[]
  instanceTypes := #[]
  staticTypes := #[]
  resolved := Array.replicate 8 none
  statics := none }

def pool6 : Array CpInfo := pool [(1, u "java/io/Serializable"), (0, .class_ 1), (0, u "java/lang/Object"), (0, .class_ 3)] 3

/-- java/io/Serializable -/
def k6 : Class := { plain "java/io/Serializable" (some 0) with
  accessFlags := 1537
  interfaces := #[]
  cf := some (fileOf pool6 2 #[] #[] 1537 4 #[] #[])
  fields := #[]
  methods := #[]
  instanceTypes := #[]
  staticTypes := #[]
  resolved := Array.replicate 8 none
  statics := none }

/-- the primitive byte -/
def k7 : Class := { plain "byte" none with kind := .primitive 'B', accessFlags := 0x411 }
/-- [B -/
def k8 : Class := { plain "[B" (some 0) with kind := .array 7 .byte, interfaces := #[5, 6], accessFlags := 1041 }

/-- the primitive int -/
def k9 : Class := { plain "int" none with kind := .primitive 'I', accessFlags := 0x411 }
/-- [I -/
def k10 : Class := { plain "[I" (some 0) with kind := .array 9 .int, interfaces := #[5, 6], accessFlags := 1041 }

def heap : Heap := #[{ cls := 4, slots := #[.long 1000000000], vm := .statics 4 }]
def classes : Array Class := #[k0, k1, k2, k3, k4, k5, k6, k7, k8, k9, k10]
def interned : List (Array UInt16 × Addr) := []
def slotsUsed : Nat := 1
def theMethod : MethodId := ⟨1, 1⟩
def args0 : Array Value := #[.int 5, .long 7, .int 3]
def aboutOver (below : List Frame) : State where
  vm := { classes := classes, interned := interned.toArray }
  heap := heap
  slotsUsed := slotsUsed
  threads := #[{ frames := .invoking theMethod args0 :: below }]
def below0 : List Frame := [.native { method := ⟨0, 0⟩, args := #[] }]
def about1 : State := aboutOver below0
def p0 : Program := .bare "" "" ""
def e0 : Env := launch0.env 0 0 0
theorem w_frames : about1.frames = Frame.invoking theMethod args0 :: below0 := rfl
set_option maxRecDepth 65536 in
theorem w_args : argsFit about1.vm theMethod args0 = true := by decide +kernel
set_option maxRecDepth 65536 in
theorem w_heap : heapFits about1 = true := by decide +kernel
set_option maxRecDepth 65536 in
theorem w_runnable : about1.curStatus? = some .runnable := by decide +kernel
set_option maxRecDepth 65536 in
theorem w_alone : about1.alone = true := by decide +kernel
set_option maxRecDepth 65536 in
theorem w_named : about1.methodNamed? x = some theMethod := by decide +kernel
set_option maxRecDepth 65536 in
theorem w_hears : about1.hears theMethod below0 = true := by decide +kernel
set_option maxRecDepth 65536 in
theorem w_ripe : about1.ripe theMethod args0 below0 = true := by decide +kernel
theorem w_running : about1.status = .running := rfl
set_option maxRecDepth 65536 in
theorem w_room : about1.hasRoom e0.platform room_1 = true :=
  launch0.hasRoom_least _ room_1 (by decide +kernel) (by decide +kernel) (by decide +kernel) (by decide +kernel) (by decide +kernel) (by decide +kernel)
theorem allAtoms_all (ts : List Jvm.Cond) (a : Array Jvm.Value) (st : Jvm.State) : (allAtoms ts).before a st = ts.all (fun c => c.before a st) := by
  induction ts with
  | nil => rfl
  | cons c t ih =>
    show (Jvm.Cond.and c (allAtoms t)).before a st = _
    rw [Jvm.Cond.before_and, ih, List.all_cons]
def words1 : List Jvm.Cond := Jvm.Cond.code x code maxLocals ret :: tables_1
/-- a 'code' word, met by the world's own term for the bytes: nothing is compared byte by byte -/
theorem code_word {y : MethodName} {bytes : ByteArray} {mx : Nat} {rt : Option FieldType} {a : Array Value} {s : State} {m : MethodId} {meth : Method} {c : Code} (h1 : s.methodNamed? y = some m) (h2 : s.vm.method? m = some meth) (h3 : meth.code = some c) (h4 : c.code = bytes)
    (h5 : (c.maxLocals == mx && c.exceptionTable.isEmpty && decide (c.maxStack ≤ mostOperands) && decide (meth.sig.returnType = rt) && !meth.locks && decide (parseMethodDescriptor y.desc = some meth.sig)) = true) : (Jvm.Cond.code y bytes mx rt).before a s = true := by
  simp only [Bool.and_eq_true, beq_iff_eq, Bool.not_eq_true', decide_eq_true_eq] at h5
  obtain ⟨⟨⟨⟨⟨g1, g2⟩, g3⟩, g4⟩, g5⟩, g6⟩ := h5
  simp [Cond.before, Cond.holds, Cond.value, h1, h2, h3, h4, g1, g2, g3, g4, g5, g6]
def isCode : Jvm.Cond → Bool
  | .code _ _ _ _ => true
  | _ => false
theorem all_split {L : List Jvm.Cond} {P : Jvm.Cond → Bool} (h1 : L.all (fun c => isCode c || P c) = true) (h2 : ∀ c ∈ L.filter isCode, P c = true) : L.all P = true := by
  refine List.all_eq_true.mpr fun c hc => ?_
  have h := List.all_eq_true.mp h1 c hc
  rcases Bool.eq_false_or_eq_true (isCode c) with hi | hi
  · exact h2 c (List.mem_filter.mpr ⟨hc, hi⟩)
  · simpa [hi] using h
set_option maxRecDepth 65536 in
theorem w_c0 : (Jvm.Cond.code x code maxLocals ret).before args0 about1 = true := code_word (m := ⟨1, 1⟩) (meth := k1m1) (c := k1c1) (by decide +kernel) rfl rfl rfl (by decide +kernel)
set_option maxRecDepth 65536 in
theorem w_c1 : (Jvm.Cond.code ({ cls := "java/lang/Math", name := "max", desc := "(II)I" } : Jvm.MethodName) jdk_29_method_65_code (2 : Nat) (Option.some Jvm.ClassFile.FieldType.int)).before args0 about1 = true := code_word (m := ⟨2, 1⟩) (meth := k2m1) (c := k2c1) (by decide +kernel) rfl rfl rfl (by decide +kernel)
set_option maxRecDepth 65536 in
theorem w_c2 : (Jvm.Cond.code ({ cls := "com/example/grow_with_load/growwithload/replay/FixedRate", name := "<init>", desc := "(I)V" } : Jvm.MethodName) prog_33_method_1_code (2 : Nat) (Option.none : Option Jvm.ClassFile.FieldType)).before args0 about1 = true := code_word (m := ⟨4, 0⟩) (meth := k4m0) (c := k4c0) (by decide +kernel) rfl rfl rfl (by decide +kernel)
set_option maxRecDepth 65536 in
theorem w_c3 : (Jvm.Cond.code ({ cls := "java/lang/Object", name := "<init>", desc := "()V" } : Jvm.MethodName) object_method_1_code (1 : Nat) (Option.none : Option Jvm.ClassFile.FieldType)).before args0 about1 = true := code_word (m := ⟨0, 0⟩) (meth := k0m0) (c := k0c0) (by decide +kernel) rfl rfl rfl (by decide +kernel)
set_option maxRecDepth 65536 in
theorem w_c4 : (Jvm.Cond.code ({ cls := "com/example/grow_with_load/growwithload/replay/FixedRate", name := "dueNanos", desc := "(J)J" } : Jvm.MethodName) prog_33_method_2_code (3 : Nat) (Option.some Jvm.ClassFile.FieldType.long)).before args0 about1 = true := code_word (m := ⟨4, 1⟩) (meth := k4m1) (c := k4c1) (by decide +kernel) rfl rfl rfl (by decide +kernel)
def codes1 : List Jvm.Cond := [Jvm.Cond.code x code maxLocals ret, Jvm.Cond.code ({ cls := "java/lang/Math", name := "max", desc := "(II)I" } : Jvm.MethodName) jdk_29_method_65_code (2 : Nat) (Option.some Jvm.ClassFile.FieldType.int), Jvm.Cond.code ({ cls := "com/example/grow_with_load/growwithload/replay/FixedRate", name := "<init>", desc := "(I)V" } : Jvm.MethodName) prog_33_method_1_code (2 : Nat) (Option.none : Option Jvm.ClassFile.FieldType), Jvm.Cond.code ({ cls := "java/lang/Object", name := "<init>", desc := "()V" } : Jvm.MethodName) object_method_1_code (1 : Nat) (Option.none : Option Jvm.ClassFile.FieldType), Jvm.Cond.code ({ cls := "com/example/grow_with_load/growwithload/replay/FixedRate", name := "dueNanos", desc := "(J)J" } : Jvm.MethodName) prog_33_method_2_code (3 : Nat) (Option.some Jvm.ClassFile.FieldType.long)]
set_option maxRecDepth 65536 in
theorem codes_eq : words1.filter isCode = codes1 := rfl
theorem w_codes : ∀ c ∈ words1.filter isCode, c.before args0 about1 = true := by
  rw [codes_eq]
  intro c hc
  simp only [codes1, List.mem_cons, List.not_mem_nil, or_false] at hc
  rcases hc with rfl | rfl | rfl | rfl | rfl
  · exact w_c0
  · exact w_c1
  · exact w_c2
  · exact w_c3
  · exact w_c4
set_option maxRecDepth 65536 in
theorem w_t1 : (words1.take 24).all (fun c => isCode c || c.before args0 about1) = true := by decide +kernel
set_option maxRecDepth 65536 in
theorem w_t2 : (words1.drop 24).all (fun c => isCode c || c.before args0 about1) = true := by decide +kernel
theorem w_tables : (allAtoms (Jvm.Cond.code x code maxLocals ret :: tables_1)).before args0 about1 = true := by
  rw [allAtoms_all]
  show words1.all (fun c => c.before args0 about1) = true
  refine all_split ?_ w_codes
  rw [← List.take_append_drop 24 words1, List.all_append, w_t1, w_t2]
  rfl
set_option maxRecDepth 65536 in
theorem w_case : (Jvm.Cond.and given_1 narrow_1).before args0 about1 = true := by decide +kernel
theorem w_applies : (headSpec (Jvm.Cond.code x code maxLocals ret :: tables_1) room_1).applies x e0.platform about1 = true :=
  (Spec.applies_iff w_frames).mpr ⟨w_running, w_runnable, w_alone, w_named, w_hears, w_ripe, w_room, w_tables⟩
theorem atStart : AtStart classFile x code maxLocals ret World_1 tables_1 room_1 Calls_1 rest_1 Pre_1 launch0 p0 e0 about1 theMethod args0 below0 :=
  ⟨lists_1, trivial, launch0.admits_env _ _ _, launch0.least_env, fairChoices_fair.cas, fairChoices_fair.clock, w_frames, w_args, w_heap, w_applies, trivial, trivial, w_case⟩
end start1
theorem witness_1 : WitnessClaimed_1 := ⟨start1.p0, start1.e0, start1.about1, start1.theMethod, start1.args0, start1.below0, start1.atStart⟩
end Jvm.Pilot.@@N@@
