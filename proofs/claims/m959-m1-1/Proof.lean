import JvmDerived
import JvmDerived.Pilot.@@N@@Statement
import JvmDerived.Pilot.@@N@@Code
set_option linter.unusedVariables false
set_option linter.unusedSimpArgs false
@@BLOCK:NumsL.lean.txt@@
namespace Jvm.RoadKit
open Sem ClassFile Op Lib Jvm.Stand Jvm.Free Jvm.LawKit
section New
variable {p : Program} {l : Launch} {e : Env} {R : Room} {s : State} {m : MethodId} {args : Array Value} {below : List Frame} {meth : Method} {c : Code} {T : State} {locs : List Loc} {cells slots : Nat}
theorem retI (X : Stand p l e R s m args below meth c T locs cells slots) (hx : p.tables.exec = Jvm.exec) {pc : Nat} {Ls : Array Slot} {z : Int32} {rest : List Value} (hret : meth.sig.returnType = some .int) (hd : decode c.code pc = .ok (.ireturn, 1)) {fs : List Frame}
    (hl : ∀ (f : JFrame) (acts : List Action), f.method = m → f.locked = none → f.entered = [] → (doReturn e (T.setTop f) acts (some (.int z))).1 = T.setFrames fs) : Steps p.tables e below (T.setTop (mkF m pc Ls (.int z :: rest))) (T.setFrames fs) := by
  have hm' : T.vm.method? m = some meth := X.method'
  have hn : narrow .int (.int z) = .int z := rfl
  show Steps p.tables e below (T.setTop { method := m, pc := pc, locals := Ls, stack := _ :: rest, locked := none }) _
  jvm_step X.here [X.here.top, hx, hd, hm', hret, hn]
  first | (intro acts; rw [hl _ acts rfl rfl rfl]) | rw [hl _ _ rfl rfl rfl]
  exact Steps.refl _
end New
end Jvm.RoadKit
namespace Jvm.Pilot.@@N@@
open Jvm Jvm.ClassFile Sem Op Lib Jvm.Free Jvm.Stand Jvm.LawKit Jvm.RoadKit Bundle Jvm.Pilot.@@N@@.Jvm.D
/-! the rest of a run, from the state t on: it comes to an end of which P holds -/
def own_At (p : Program) (e : Env) (below : List Frame) (P : Outcome → State → Prop) (t : State) : Prop := ∃ s₂ o, Steps p.tables e below t s₂ ∧ s₂.status = .running ∧ Ended s₂ below o ∧ P o s₂
theorem own_body {p : Program} {e : Env} {below : List Frame} {P : Outcome → State → Prop} {t : State} (h : ∀ P' : Outcome → State → Prop, (∀ o u, P o u → P' o u) → own_At p e below P' t) : own_At p e below P t := h P fun _ _ q => q
theorem own_st {p : Program} {e : Env} {below : List Frame} {P : Outcome → State → Prop} {t t' : State} (h : ∀ target, Steps p.tables e below t' target → Steps p.tables e below t target) (k : own_At p e below P t') : own_At p e below P t := by
  obtain ⟨s₂, o, h1, h2⟩ := k
  exact ⟨s₂, o, h _ h1, h2⟩
theorem own_tr {p : Program} {e : Env} {below : List Frame} {P : Outcome → State → Prop} {t t' : State} (h : Steps p.tables e below t t') (k : own_At p e below P t') : own_At p e below P t := by
  obtain ⟨s₂, o, h1, h2⟩ := k
  exact ⟨s₂, o, h.trans h1, h2⟩
def own_max (a b : Int32) : Int32 := if a < b then b else a
def own_h (n : Int32) : Int64 := ((n / (2 : Int32)).toInt64)
def own_wav (n : Int32) : Int64 := if (n % (2 : Int32)) = (1 : Int32) then (own_h n * (own_h n + (1 : Int64))) / (2 : Int64) else ((own_h n * (own_h n - (1 : Int64))) / (2 : Int64) + own_h n / (2 : Int64)) + (1 : Int64)

theorem own_lc {a b : Int64} (h : a = b) : lcmpW a b = (0 : Int32) := by
  subst h
  simp [lcmpW, Int64.lt_irrefl]
theorem own_mm (p : Int32) : 2 ≤ (own_max (2 : Int32) (p &&& (1073741823 : Int32))).toInt ∧ (own_max (2 : Int32) (p &&& (1073741823 : Int32))).toInt < 1073741824 := by
  have e1 : (p &&& (1073741823 : Int32)).toInt = p.toInt % 2 ^ 30 := Jvm.Kit.i32_mask p 1073741823 (k := 30) (by decide) (by decide)
  have e2 : (2 : Int32).toInt = 2 := rfl
  unfold own_max
  split
  · rename_i h
    rw [Int32.lt_iff_toInt_lt] at h
    omega
  · omega
/-- half of a number of ints, as a long -/
theorem own_half {n : Int32} (h : 0 ≤ n.toInt) : (own_h n).toInt = n.toInt / 2 := by
  unfold own_h
  rw [Jvm.Kit.i64_of_i32, Jvm.Kit.i32_div (by omega)]
  exact Int.tdiv_eq_ediv_of_nonneg h
theorem own_two (a b : Int) : a * (a + 1) % 2 = 0 := by
  rcases Int.emod_two_eq a with h | h <;> simp [Int.mul_emod, Int.add_emod, h]
theorem own_sq {y : Int} (h0 : 0 ≤ y) (h1 : y < 1073741824) : 0 ≤ y * (y + 1) ∧ y * (y + 1) ≤ 1152921504606846976 := by
  refine ⟨Int.mul_nonneg h0 (by omega), ?_⟩
  have q := Int.mul_le_mul (show y ≤ 1073741824 by omega) (show y + 1 ≤ 1073741824 by omega) (by omega) (by omega)
  simpa using q
/-- h(h + 1) / 2, no wrap -/
theorem own_tri {h : Int64} {y : Int} (e : h.toInt = y) (h0 : 0 ≤ y) (h1 : y < 1073741824) : (h * (h + (1 : Int64))).toInt = y * (y + 1) ∧ (h * (h + (1 : Int64)) / (2 : Int64)).toInt = y * (y + 1) / 2 := by
  have l1 : (1 : Int64).toInt = 1 := rfl
  have l2 : (2 : Int64).toInt = 2 := rfl
  have q := own_sq h0 h1
  have a1 : (h + (1 : Int64)).toInt = y + 1 := by rw [Jvm.Kit.i64_add (by omega) (by omega), e, l1]
  have a2 : (h * (h + (1 : Int64))).toInt = y * (y + 1) := by rw [Jvm.Kit.i64_mul (by rw [e, a1]; omega) (by rw [e, a1]; omega), e, a1]
  refine ⟨a2, ?_⟩
  rw [Jvm.Kit.i64_div (by rw [l2]; omega), a2, l2]
  exact Int.tdiv_eq_ediv_of_nonneg q.1
theorem own_wodd {n : Int32} (h : 0 ≤ n.toInt) (ho : n.toInt % 2 = 1) (hb : n.toInt / 2 < 1073741824) : (own_wav n).toInt = (n.toInt / 2) * (n.toInt / 2 + 1) / 2 ∧ (2 : Int64) * own_wav n = own_h n * (own_h n + (1 : Int64)) := by
  have l1 : (1 : Int32).toInt = 1 := rfl
  have l2 : (2 : Int32).toInt = 2 := rfl
  have k2 : (2 : Int64).toInt = 2 := rfl
  have hm : (n % (2 : Int32)) = (1 : Int32) := by
    rw [← Int32.toInt_inj, Int32.toInt_mod, l1, l2, Int.tmod_eq_emod_of_nonneg h]; exact ho
  have e := own_half h
  obtain ⟨t1, t2⟩ := own_tri e (by omega) hb
  have w : own_wav n = (own_h n * (own_h n + (1 : Int64))) / (2 : Int64) := by rw [own_wav, if_pos hm]
  have q := own_sq (y := n.toInt / 2) (by omega) hb
  have r := own_two (n.toInt / 2) 0
  refine ⟨by rw [w, t2], ?_⟩
  rw [← Int64.toInt_inj, w, Jvm.Kit.i64_mul (by rw [k2, t2]; omega) (by rw [k2, t2]; omega), t2, t1, k2]
  omega
theorem own_t64 (m : Int32) : (m.toInt64).toInt = m.toInt := Jvm.Kit.i64_of_i32 m
theorem own_n1 {m : Int32} (h : 2 ≤ m.toInt ∧ m.toInt < 1073741824) : ((2 : Int32) * m).toInt = 2 * m.toInt ∧ ((2 : Int32) * m + (1 : Int32)).toInt = 2 * m.toInt + 1 ∧ ((2 : Int32) * m - (1 : Int32)).toInt = 2 * m.toInt - 1 := by
  have l1 : (1 : Int32).toInt = 1 := rfl
  have l2 : (2 : Int32).toInt = 2 := rfl
  have a : ((2 : Int32) * m).toInt = 2 * m.toInt := by rw [Jvm.Kit.i32_mul (by rw [l2]; omega) (by rw [l2]; omega), l2]
  refine ⟨a, ?_, ?_⟩
  · rw [Jvm.Kit.i32_add (by omega) (by omega), a, l1]
  · rw [Jvm.Kit.i32_sub (by omega) (by omega), a, l1]
theorem own_odd {m : Int32} (h : 2 ≤ m.toInt ∧ m.toInt < 1073741824) : ((2 : Int64) * (own_wav (((2 : Int32) * m) + (1 : Int32)))) = (((m.toInt64)) * (((m.toInt64)) + (1 : Int64))) := by
  obtain ⟨a, b, c⟩ := own_n1 h
  rw [(own_wodd (n := (2 : Int32) * m + (1 : Int32)) (by omega) (by omega) (by omega)).2]
  have e : own_h ((2 : Int32) * m + (1 : Int32)) = m.toInt64 := by
    rw [← Int64.toInt_inj, own_half (by omega), own_t64]; omega
  rw [e]
theorem own_low {m : Int32} (h : 2 ≤ m.toInt ∧ m.toInt < 1073741824) : ((2 : Int64) * (own_wav (((2 : Int32) * m) - (1 : Int32)))) = (((m.toInt64) - (1 : Int64)) * (m.toInt64)) := by
  obtain ⟨a, b, c⟩ := own_n1 h
  have l1 : (1 : Int64).toInt = 1 := rfl
  rw [(own_wodd (n := (2 : Int32) * m - (1 : Int32)) (by omega) (by omega) (by omega)).2]
  have e : own_h ((2 : Int32) * m - (1 : Int32)) = m.toInt64 - (1 : Int64) := by
    rw [← Int64.toInt_inj, own_half (by omega), Jvm.Kit.i64_sub (by rw [own_t64]; omega) (by rw [own_t64]; omega), own_t64, l1]; omega
  have f : m.toInt64 - (1 : Int64) + (1 : Int64) = m.toInt64 := Int64.sub_add_cancel _ _
  rw [e, f]
theorem own_even {m : Int32} (h : 2 ≤ m.toInt ∧ m.toInt < 1073741824) : (own_wav ((2 : Int32) * m)) = (((own_wav (((2 : Int32) * m) - (1 : Int32))) + ((m / (2 : Int32)).toInt64)) + (1 : Int64)) := by
  obtain ⟨a, b, c⟩ := own_n1 h
  have l1 : (1 : Int32).toInt = 1 := rfl
  have l2 : (2 : Int32).toInt = 2 := rfl
  have k1 : (1 : Int64).toInt = 1 := rfl
  have k2 : (2 : Int64).toInt = 2 := rfl
  have hm : ¬ (((2 : Int32) * m) % (2 : Int32)) = (1 : Int32) := by
    rw [← Int32.toInt_inj, Int32.toInt_mod, l1, l2, Int.tmod_eq_emod_of_nonneg (by omega), a]; omega
  have hm1 : (((2 : Int32) * m - (1 : Int32)) % (2 : Int32)) = (1 : Int32) := by
    rw [← Int32.toInt_inj, Int32.toInt_mod, l1, l2, Int.tmod_eq_emod_of_nonneg (by omega), c]; omega
  have e : own_h ((2 : Int32) * m) = m.toInt64 := by
    rw [← Int64.toInt_inj, own_half (by omega), own_t64]; omega
  have e1 : own_h ((2 : Int32) * m - (1 : Int32)) = m.toInt64 - (1 : Int64) := by
    rw [← Int64.toInt_inj, own_half (by omega), Jvm.Kit.i64_sub (by rw [own_t64]; omega) (by rw [own_t64]; omega), own_t64, k1]; omega
  have f : m.toInt64 - (1 : Int64) + (1 : Int64) = m.toInt64 := Int64.sub_add_cancel _ _
  have g : m.toInt64 / (2 : Int64) = (m / (2 : Int32)).toInt64 := by
    rw [← Int64.toInt_inj, Jvm.Kit.i64_div (by rw [k2]; omega), own_t64, own_t64, Jvm.Kit.i32_div (by rw [l2]; omega), k2, l2]
  rw [own_wav, if_neg hm, own_wav, if_pos hm1, e, e1, f, g, Int64.mul_comm]

theorem own_rm1_d0 : decode jdk_29_method_65_code 0 = .ok (.iload_n 0, 1) := by decide +kernel
theorem own_rm1_d1 : decode jdk_29_method_65_code 1 = .ok (.iload_n 1, 1) := by decide +kernel
theorem own_rm1_d2 : decode jdk_29_method_65_code 2 = .ok (.if_icmp .lt 7, 3) := by decide +kernel
theorem own_rm1_d5 : decode jdk_29_method_65_code 5 = .ok (.iload_n 0, 1) := by decide +kernel
theorem own_rm1_d6 : decode jdk_29_method_65_code 6 = .ok (.goto 4, 3) := by decide +kernel
theorem own_rm1_d9 : decode jdk_29_method_65_code 9 = .ok (.iload_n 1, 1) := by decide +kernel
theorem own_rm1_d10 : decode jdk_29_method_65_code 10 = .ok (.ireturn, 1) := by decide +kernel
theorem own_rm1_ef (m : MethodId) (x0 : Int32) (x1 : Int32) : entryFrame m #[(.int x0), (.int x1)] 2 = mkF m 0 #[.val (.int x0), .val (.int x1)] [] := by first | (simp [entryFrame, mkF, argsToLocals, Value.category]; done) | rfl
def own_rm1_Q (Z : State) (p1 : Int32) (p2 : Int32) (h0 : Heap) (n0 : Nat) (v : Option Value) (h : Heap) (L : List Loc) : Prop := v = some (.int (own_max p1 p2)) ∧ Fr n0 L ∧ h = h0
set_option maxRecDepth 65536 in
set_option maxHeartbeats 40000000 in
theorem own_rm1 (l : Launch) (Z : State) (a0 : Array Value) (hw : ∀ d ∈ tables_1, d.before a0 Z = true) (ws : List Jvm.Cond) (p1 : Int32) (p2 : Int32) (h0 : Heap) (n0 : Nat) (Z0 : n0 ≤ h0.size) :
    MetFree l (⟨"java/lang/Math", "max", "(II)I"⟩ : MethodName) (head1 (Jvm.Cond.code (⟨"java/lang/Math", "max", "(II)I"⟩ : MethodName) jdk_29_method_65_code 2 (some .int) :: ws) ({ frames := 0, cells := 0, slots := 0, locals := 0 } : Room)) (fun a U => a = #[(.int p1), (.int p2)] ∧ Z.Warmed39 U.vm ∧ U.heap = h0) (fun _ _ _ _ _ => True) (fun _ U o U' => ∃ v L, o = .returned v ∧ own_rm1_Q Z p1 p2 h0 n0 v U'.heap L ∧ FrameEnd U o U' L ({ frames := 0, cells := 0, slots := 0, locals := 0 } : Room).cells ({ frames := 0, cells := 0, slots := 0, locals := 0 } : Room).slots) := by
  refine MetFree.of_bodySF (Jvm.Free.JP.mathPlain rfl (by decide +kernel)) hisR ?_
  intro p e s m args below meth c s₁ Bd hml0 hPre hK
  obtain ⟨rfl, hZ, hh⟩ := hPre
  have hx := Bd.exec
  have hby := Bd.bytes
  have hml : c.maxLocals = 2 := hml0
  have hown : s.vm.findClass "java/lang/Math" = some m.cls := findClass_of_methodNamed Bd.named
  have hnm := (name_of_methodNamed Bd.named Bd.method).1
  have X0 : Stand p l e ({ frames := 0, cells := 0, slots := 0, locals := 0 } : Room) s m #[(.int p1), (.int p2)] below meth c s₁ [] 0 0 := Stand.of_body Bd
  have e0 : s₁.heap = h0 := by rw [← hh, Bd.state]; rfl
  have N0 := Fr.nil n0
  refine own_body fun P hP => ?_
  refine own_st (t' := s₁.setTop (mkF m 0 #[.val (.int p1), .val (.int p2)] [])) (fun _ k => castTop (own_rm1_ef m p1 p2) k) ?_
  refine own_st (t' := s₁.setTop (mkF m 1 #[.val (.int p1), .val (.int p2)] [(.int p1)])) (fun _ k => XS.iloadN X0.here hx rfl (hb hby own_rm1_d0) rfl k) ?_
  refine own_st (t' := s₁.setTop (mkF m 2 #[.val (.int p1), .val (.int p2)] [(.int p2), (.int p1)])) (fun _ k => XS.iloadN X0.here hx rfl (hb hby own_rm1_d1) rfl k) ?_
  by_cases c2_1 : p1 < p2
  · refine own_st (t' := s₁.setTop (mkF m 9 #[.val (.int p1), .val (.int p2)] [])) (fun _ k => XS.icmpYes X0.here hx rfl (pc0 := 2) (pc' := 9) rfl (hb hby own_rm1_d2) rfl (tlt c2_1).1 (by decide) (by decide) k) ?_
    refine own_st (t' := s₁.setTop (mkF m 10 #[.val (.int p1), .val (.int p2)] [(.int p2)])) (fun _ k => XS.iloadN X0.here hx rfl (hb hby own_rm1_d9) rfl k) ?_
    have hv2 : p2 = own_max p1 p2 := by simp [own_max, c2_1]
    obtain ⟨fs, hr, hrun, hended, hW, hsame⟩ := X0.leave (v := some (.int p2)) (fun h => by rw [Bd.returns] at h; cases h)
    exact ⟨_, _, retI X0 hx Bd.returns (hb hby own_rm1_d10) hr, hrun, hended, hP _ _ ⟨_, _, rfl, ⟨(congrArg (fun z => some (Value.int z)) hv2), N0, e0⟩, ⟨_, rfl⟩, hW, hsame.mono (by decide) (by decide)⟩⟩
  · refine own_st (t' := s₁.setTop (mkF m 5 #[.val (.int p1), .val (.int p2)] [])) (fun _ k => XS.icmpNo X0.here hx rfl (hb hby own_rm1_d2) rfl (flt c2_1).1 k) ?_
    refine own_st (t' := s₁.setTop (mkF m 6 #[.val (.int p1), .val (.int p2)] [(.int p1)])) (fun _ k => XS.iloadN X0.here hx rfl (hb hby own_rm1_d5) rfl k) ?_
    refine own_st (t' := s₁.setTop (mkF m 10 #[.val (.int p1), .val (.int p2)] [(.int p1)])) (fun _ k => XS.goto X0.here hx rfl (pc0 := 6) (pc' := 10) rfl (hb hby own_rm1_d6) (by decide) (by decide) k) ?_
    have hv3 : p1 = own_max p1 p2 := by simp [own_max, c2_1]
    obtain ⟨fs, hr, hrun, hended, hW, hsame⟩ := X0.leave (v := some (.int p1)) (fun h => by rw [Bd.returns] at h; cases h)
    exact ⟨_, _, retI X0 hx Bd.returns (hb hby own_rm1_d10) hr, hrun, hended, hP _ _ ⟨_, _, rfl, ⟨(congrArg (fun z => some (Value.int z)) hv3), N0, e0⟩, ⟨_, rfl⟩, hW, hsame.mono (by decide) (by decide)⟩⟩

theorem own_rm2_d0 : decode prog_1_method_4_code 0 = .ok (.iload_n 0, 1) := by decide +kernel
theorem own_rm2_d1 : decode prog_1_method_4_code 1 = .ok (.iconst 2, 1) := by decide +kernel
theorem own_rm2_d2 : decode prog_1_method_4_code 2 = .ok (.idiv, 1) := by decide +kernel
theorem own_rm2_d3 : decode prog_1_method_4_code 3 = .ok (.i2l, 1) := by decide +kernel
theorem own_rm2_d4 : decode prog_1_method_4_code 4 = .ok (.lstore_n 1, 1) := by decide +kernel
theorem own_rm2_d5 : decode prog_1_method_4_code 5 = .ok (.iload_n 0, 1) := by decide +kernel
theorem own_rm2_d6 : decode prog_1_method_4_code 6 = .ok (.iconst 2, 1) := by decide +kernel
theorem own_rm2_d7 : decode prog_1_method_4_code 7 = .ok (.irem, 1) := by decide +kernel
theorem own_rm2_d8 : decode prog_1_method_4_code 8 = .ok (.iconst 1, 1) := by decide +kernel
theorem own_rm2_d9 : decode prog_1_method_4_code 9 = .ok (.if_icmp .ne 13, 3) := by decide +kernel
theorem own_rm2_d12 : decode prog_1_method_4_code 12 = .ok (.lload_n 1, 1) := by decide +kernel
theorem own_rm2_d13 : decode prog_1_method_4_code 13 = .ok (.lload_n 1, 1) := by decide +kernel
theorem own_rm2_d14 : decode prog_1_method_4_code 14 = .ok (.lconst 1, 1) := by decide +kernel
theorem own_rm2_d15 : decode prog_1_method_4_code 15 = .ok (.ladd, 1) := by decide +kernel
theorem own_rm2_d16 : decode prog_1_method_4_code 16 = .ok (.lmul, 1) := by decide +kernel
theorem own_rm2_d17 : decode prog_1_method_4_code 17 = .ok (.ldc2_w 37, 3) := by decide +kernel
theorem own_rm2_d20 : decode prog_1_method_4_code 20 = .ok (.ldiv, 1) := by decide +kernel
theorem own_rm2_d21 : decode prog_1_method_4_code 21 = .ok (.lreturn, 1) := by decide +kernel
theorem own_rm2_d22 : decode prog_1_method_4_code 22 = .ok (.lload_n 1, 1) := by decide +kernel
theorem own_rm2_d23 : decode prog_1_method_4_code 23 = .ok (.lload_n 1, 1) := by decide +kernel
theorem own_rm2_d24 : decode prog_1_method_4_code 24 = .ok (.lconst 1, 1) := by decide +kernel
theorem own_rm2_d25 : decode prog_1_method_4_code 25 = .ok (.lsub, 1) := by decide +kernel
theorem own_rm2_d26 : decode prog_1_method_4_code 26 = .ok (.lmul, 1) := by decide +kernel
theorem own_rm2_d27 : decode prog_1_method_4_code 27 = .ok (.ldc2_w 37, 3) := by decide +kernel
theorem own_rm2_d30 : decode prog_1_method_4_code 30 = .ok (.ldiv, 1) := by decide +kernel
theorem own_rm2_d31 : decode prog_1_method_4_code 31 = .ok (.lload_n 1, 1) := by decide +kernel
theorem own_rm2_d32 : decode prog_1_method_4_code 32 = .ok (.ldc2_w 37, 3) := by decide +kernel
theorem own_rm2_d35 : decode prog_1_method_4_code 35 = .ok (.ldiv, 1) := by decide +kernel
theorem own_rm2_d36 : decode prog_1_method_4_code 36 = .ok (.ladd, 1) := by decide +kernel
theorem own_rm2_d37 : decode prog_1_method_4_code 37 = .ok (.lconst 1, 1) := by decide +kernel
theorem own_rm2_d38 : decode prog_1_method_4_code 38 = .ok (.ladd, 1) := by decide +kernel
theorem own_rm2_d39 : decode prog_1_method_4_code 39 = .ok (.lreturn, 1) := by decide +kernel
theorem own_rm2_pn : plainName "com/example/lambdaloom/lambdaloom/AllToAllRing" = true := by first | (simp [plainName, overriddenIn]; done) | decide +kernel
theorem own_rm2_ef (m : MethodId) (x0 : Int32) : entryFrame m #[(.int x0)] 3 = mkF m 0 #[.val (.int x0), .unset, .unset] [] := by first | (simp [entryFrame, mkF, argsToLocals, Value.category]; done) | rfl
def own_rm2_Q (Z : State) (p1 : Int32) (h0 : Heap) (n0 : Nat) (v : Option Value) (h : Heap) (L : List Loc) : Prop := v = some (.long (own_wav p1)) ∧ Fr n0 L ∧ h = h0
set_option maxRecDepth 65536 in
set_option maxHeartbeats 40000000 in
theorem own_rm2 (l : Launch) (Z : State) (a0 : Array Value) (hw : ∀ d ∈ tables_1, d.before a0 Z = true) (ws : List Jvm.Cond) (p1 : Int32) (h0 : Heap) (n0 : Nat) (Z0 : n0 ≤ h0.size) :
    MetFree l (⟨"com/example/lambdaloom/lambdaloom/AllToAllRing", "wavelengths", "(I)J"⟩ : MethodName) (head1 (Jvm.Cond.code (⟨"com/example/lambdaloom/lambdaloom/AllToAllRing", "wavelengths", "(I)J"⟩ : MethodName) prog_1_method_4_code 3 (some .long) :: ws) ({ frames := 0, cells := 0, slots := 0, locals := 0 } : Room)) (fun a U => a = #[(.int p1)] ∧ Z.Warmed39 U.vm ∧ U.heap = h0) (fun _ _ _ _ _ => True) (fun _ U o U' => ∃ v L, o = .returned v ∧ own_rm2_Q Z p1 h0 n0 v U'.heap L ∧ FrameEnd U o U' L ({ frames := 0, cells := 0, slots := 0, locals := 0 } : Room).cells ({ frames := 0, cells := 0, slots := 0, locals := 0 } : Room).slots) := by
  refine MetFree.of_bodySF (plainFor_of_name own_rm2_pn) hisR ?_
  intro p e s m args below meth c s₁ Bd hml0 hPre hK
  obtain ⟨rfl, hZ, hh⟩ := hPre
  have hx := Bd.exec
  have hby := Bd.bytes
  have hml : c.maxLocals = 3 := hml0
  have hown : s.vm.findClass "com/example/lambdaloom/lambdaloom/AllToAllRing" = some m.cls := findClass_of_methodNamed Bd.named
  have hnm := (name_of_methodNamed Bd.named Bd.method).1
  have X0 : Stand p l e ({ frames := 0, cells := 0, slots := 0, locals := 0 } : Room) s m #[(.int p1)] below meth c s₁ [] 0 0 := Stand.of_body Bd
  have e0 : s₁.heap = h0 := by rw [← hh, Bd.state]; rfl
  have N0 := Fr.nil n0
  refine own_body fun P hP => ?_
  refine own_st (t' := s₁.setTop (mkF m 0 #[.val (.int p1), .unset, .unset] [])) (fun _ k => castTop (own_rm2_ef m p1) k) ?_
  refine own_st (t' := s₁.setTop (mkF m 1 #[.val (.int p1), .unset, .unset] [(.int p1)])) (fun _ k => XS.iloadN X0.here hx rfl (hb hby own_rm2_d0) rfl k) ?_
  refine own_st (t' := s₁.setTop (mkF m 2 #[.val (.int p1), .unset, .unset] [(.int (2 : Int32)), (.int p1)])) (fun _ k => XS.iconst X0.here hx rfl (hb hby own_rm2_d1) k) ?_
  refine own_st (t' := s₁.setTop (mkF m 3 #[.val (.int p1), .unset, .unset] [(.int (p1 / (2 : Int32)))])) (fun _ k => XS.idiv X0.here hx rfl (hb hby own_rm2_d2) rfl (by decide) k) ?_
  refine own_st (t' := s₁.setTop (mkF m 4 #[.val (.int p1), .unset, .unset] [(.long ((p1 / (2 : Int32)).toInt64))])) (fun _ k => XS.i2l X0.here hx rfl (hb hby own_rm2_d3) rfl k) ?_
  refine own_st (t' := s₁.setTop (mkF m 5 #[.val (.int p1), .val (.long ((p1 / (2 : Int32)).toInt64)), .second] [])) (fun _ k => XS.lstoreN X0.here hx rfl (hb hby own_rm2_d4) rfl (l' := #[.val (.int p1), .val (.long ((p1 / (2 : Int32)).toInt64)), .second]) rfl k) ?_
  refine own_st (t' := s₁.setTop (mkF m 6 #[.val (.int p1), .val (.long ((p1 / (2 : Int32)).toInt64)), .second] [(.int p1)])) (fun _ k => XS.iloadN X0.here hx rfl (hb hby own_rm2_d5) rfl k) ?_
  refine own_st (t' := s₁.setTop (mkF m 7 #[.val (.int p1), .val (.long ((p1 / (2 : Int32)).toInt64)), .second] [(.int (2 : Int32)), (.int p1)])) (fun _ k => XS.iconst X0.here hx rfl (hb hby own_rm2_d6) k) ?_
  refine own_st (t' := s₁.setTop (mkF m 8 #[.val (.int p1), .val (.long ((p1 / (2 : Int32)).toInt64)), .second] [(.int (p1 % (2 : Int32)))])) (fun _ k => iremM (g := (mkF m 7 #[.val (.int p1), .val (.long ((p1 / (2 : Int32)).toInt64)), .second] [(.int (2 : Int32)), (.int p1)])) X0 hx rfl (hb hby own_rm2_d7) rfl (by decide) k) ?_
  refine own_st (t' := s₁.setTop (mkF m 9 #[.val (.int p1), .val (.long ((p1 / (2 : Int32)).toInt64)), .second] [(.int (1 : Int32)), (.int (p1 % (2 : Int32)))])) (fun _ k => XS.iconst X0.here hx rfl (hb hby own_rm2_d8) k) ?_
  by_cases c9_1 : (p1 % (2 : Int32)) = (1 : Int32)
  · refine own_st (t' := s₁.setTop (mkF m 12 #[.val (.int p1), .val (.long ((p1 / (2 : Int32)).toInt64)), .second] [])) (fun _ k => XS.icmpNo X0.here hx rfl (hb hby own_rm2_d9) rfl (teq c9_1).2 k) ?_
    refine own_st (t' := s₁.setTop (mkF m 13 #[.val (.int p1), .val (.long ((p1 / (2 : Int32)).toInt64)), .second] [(.long ((p1 / (2 : Int32)).toInt64))])) (fun _ k => XS.lloadN X0.here hx rfl (hb hby own_rm2_d12) rfl k) ?_
    refine own_st (t' := s₁.setTop (mkF m 14 #[.val (.int p1), .val (.long ((p1 / (2 : Int32)).toInt64)), .second] [(.long ((p1 / (2 : Int32)).toInt64)), (.long ((p1 / (2 : Int32)).toInt64))])) (fun _ k => XS.lloadN X0.here hx rfl (hb hby own_rm2_d13) rfl k) ?_
    refine own_st (t' := s₁.setTop (mkF m 15 #[.val (.int p1), .val (.long ((p1 / (2 : Int32)).toInt64)), .second] [(.long (1 : Int64)), (.long ((p1 / (2 : Int32)).toInt64)), (.long ((p1 / (2 : Int32)).toInt64))])) (fun _ k => XS.lconst X0.here hx rfl (hb hby own_rm2_d14) k) ?_
    refine own_st (t' := s₁.setTop (mkF m 16 #[.val (.int p1), .val (.long ((p1 / (2 : Int32)).toInt64)), .second] [(.long (((p1 / (2 : Int32)).toInt64) + (1 : Int64))), (.long ((p1 / (2 : Int32)).toInt64))])) (fun _ k => XS.ladd X0.here hx rfl (hb hby own_rm2_d15) rfl k) ?_
    refine own_st (t' := s₁.setTop (mkF m 17 #[.val (.int p1), .val (.long ((p1 / (2 : Int32)).toInt64)), .second] [(.long (((p1 / (2 : Int32)).toInt64) * (((p1 / (2 : Int32)).toInt64) + (1 : Int64))))])) (fun _ k => XS.lmul X0.here hx rfl (hb hby own_rm2_d16) rfl k) ?_
    refine own_st (t' := s₁.setTop (mkF m 20 #[.val (.int p1), .val (.long ((p1 / (2 : Int32)).toInt64)), .second] [(.long (2 : Int64)), (.long (((p1 / (2 : Int32)).toInt64) * (((p1 / (2 : Int32)).toInt64) + (1 : Int64))))])) (fun _ k => X0.ldc2Long hx hown (mvT hZ (hw _ (List.mem_of_getElem? (i := 9) rfl))) (g := (mkF m 17 #[.val (.int p1), .val (.long ((p1 / (2 : Int32)).toInt64)), .second] [(.long (((p1 / (2 : Int32)).toInt64) * (((p1 / (2 : Int32)).toInt64) + (1 : Int64))))])) rfl (hb hby own_rm2_d17) _ k) ?_
    refine own_st (t' := s₁.setTop (mkF m 21 #[.val (.int p1), .val (.long ((p1 / (2 : Int32)).toInt64)), .second] [(.long ((((p1 / (2 : Int32)).toInt64) * (((p1 / (2 : Int32)).toInt64) + (1 : Int64))) / (2 : Int64)))])) (fun _ k => XS.ldiv X0.here hx rfl (hb hby own_rm2_d20) rfl (by decide) k) ?_
    have hv2 : ((((p1 / (2 : Int32)).toInt64) * (((p1 / (2 : Int32)).toInt64) + (1 : Int64))) / (2 : Int64)) = own_wav p1 := by rw [own_wav, if_pos c9_1]; rfl
    obtain ⟨fs, hr, hrun, hended, hW, hsame⟩ := X0.leave (v := some (.long ((((p1 / (2 : Int32)).toInt64) * (((p1 / (2 : Int32)).toInt64) + (1 : Int64))) / (2 : Int64)))) (fun h => by rw [Bd.returns] at h; cases h)
    exact ⟨_, _, X0.lreturnOut hx Bd.returns (hb hby own_rm2_d21) hr, hrun, hended, hP _ _ ⟨_, _, rfl, ⟨(congrArg (fun z => some (Value.long z)) hv2), N0, e0⟩, ⟨_, rfl⟩, hW, hsame.mono (by decide) (by decide)⟩⟩
  · refine own_st (t' := s₁.setTop (mkF m 22 #[.val (.int p1), .val (.long ((p1 / (2 : Int32)).toInt64)), .second] [])) (fun _ k => XS.icmpYes X0.here hx rfl (pc0 := 9) (pc' := 22) rfl (hb hby own_rm2_d9) rfl (feq c9_1).2 (by decide) (by decide) k) ?_
    refine own_st (t' := s₁.setTop (mkF m 23 #[.val (.int p1), .val (.long ((p1 / (2 : Int32)).toInt64)), .second] [(.long ((p1 / (2 : Int32)).toInt64))])) (fun _ k => XS.lloadN X0.here hx rfl (hb hby own_rm2_d22) rfl k) ?_
    refine own_st (t' := s₁.setTop (mkF m 24 #[.val (.int p1), .val (.long ((p1 / (2 : Int32)).toInt64)), .second] [(.long ((p1 / (2 : Int32)).toInt64)), (.long ((p1 / (2 : Int32)).toInt64))])) (fun _ k => XS.lloadN X0.here hx rfl (hb hby own_rm2_d23) rfl k) ?_
    refine own_st (t' := s₁.setTop (mkF m 25 #[.val (.int p1), .val (.long ((p1 / (2 : Int32)).toInt64)), .second] [(.long (1 : Int64)), (.long ((p1 / (2 : Int32)).toInt64)), (.long ((p1 / (2 : Int32)).toInt64))])) (fun _ k => XS.lconst X0.here hx rfl (hb hby own_rm2_d24) k) ?_
    refine own_st (t' := s₁.setTop (mkF m 26 #[.val (.int p1), .val (.long ((p1 / (2 : Int32)).toInt64)), .second] [(.long (((p1 / (2 : Int32)).toInt64) - (1 : Int64))), (.long ((p1 / (2 : Int32)).toInt64))])) (fun _ k => XS.lsub X0.here hx rfl (hb hby own_rm2_d25) rfl k) ?_
    refine own_st (t' := s₁.setTop (mkF m 27 #[.val (.int p1), .val (.long ((p1 / (2 : Int32)).toInt64)), .second] [(.long (((p1 / (2 : Int32)).toInt64) * (((p1 / (2 : Int32)).toInt64) - (1 : Int64))))])) (fun _ k => XS.lmul X0.here hx rfl (hb hby own_rm2_d26) rfl k) ?_
    refine own_st (t' := s₁.setTop (mkF m 30 #[.val (.int p1), .val (.long ((p1 / (2 : Int32)).toInt64)), .second] [(.long (2 : Int64)), (.long (((p1 / (2 : Int32)).toInt64) * (((p1 / (2 : Int32)).toInt64) - (1 : Int64))))])) (fun _ k => X0.ldc2Long hx hown (mvT hZ (hw _ (List.mem_of_getElem? (i := 9) rfl))) (g := (mkF m 27 #[.val (.int p1), .val (.long ((p1 / (2 : Int32)).toInt64)), .second] [(.long (((p1 / (2 : Int32)).toInt64) * (((p1 / (2 : Int32)).toInt64) - (1 : Int64))))])) rfl (hb hby own_rm2_d27) _ k) ?_
    refine own_st (t' := s₁.setTop (mkF m 31 #[.val (.int p1), .val (.long ((p1 / (2 : Int32)).toInt64)), .second] [(.long ((((p1 / (2 : Int32)).toInt64) * (((p1 / (2 : Int32)).toInt64) - (1 : Int64))) / (2 : Int64)))])) (fun _ k => XS.ldiv X0.here hx rfl (hb hby own_rm2_d30) rfl (by decide) k) ?_
    refine own_st (t' := s₁.setTop (mkF m 32 #[.val (.int p1), .val (.long ((p1 / (2 : Int32)).toInt64)), .second] [(.long ((p1 / (2 : Int32)).toInt64)), (.long ((((p1 / (2 : Int32)).toInt64) * (((p1 / (2 : Int32)).toInt64) - (1 : Int64))) / (2 : Int64)))])) (fun _ k => XS.lloadN X0.here hx rfl (hb hby own_rm2_d31) rfl k) ?_
    refine own_st (t' := s₁.setTop (mkF m 35 #[.val (.int p1), .val (.long ((p1 / (2 : Int32)).toInt64)), .second] [(.long (2 : Int64)), (.long ((p1 / (2 : Int32)).toInt64)), (.long ((((p1 / (2 : Int32)).toInt64) * (((p1 / (2 : Int32)).toInt64) - (1 : Int64))) / (2 : Int64)))])) (fun _ k => X0.ldc2Long hx hown (mvT hZ (hw _ (List.mem_of_getElem? (i := 9) rfl))) (g := (mkF m 32 #[.val (.int p1), .val (.long ((p1 / (2 : Int32)).toInt64)), .second] [(.long ((p1 / (2 : Int32)).toInt64)), (.long ((((p1 / (2 : Int32)).toInt64) * (((p1 / (2 : Int32)).toInt64) - (1 : Int64))) / (2 : Int64)))])) rfl (hb hby own_rm2_d32) _ k) ?_
    refine own_st (t' := s₁.setTop (mkF m 36 #[.val (.int p1), .val (.long ((p1 / (2 : Int32)).toInt64)), .second] [(.long (((p1 / (2 : Int32)).toInt64) / (2 : Int64))), (.long ((((p1 / (2 : Int32)).toInt64) * (((p1 / (2 : Int32)).toInt64) - (1 : Int64))) / (2 : Int64)))])) (fun _ k => XS.ldiv X0.here hx rfl (hb hby own_rm2_d35) rfl (by decide) k) ?_
    refine own_st (t' := s₁.setTop (mkF m 37 #[.val (.int p1), .val (.long ((p1 / (2 : Int32)).toInt64)), .second] [(.long (((((p1 / (2 : Int32)).toInt64) * (((p1 / (2 : Int32)).toInt64) - (1 : Int64))) / (2 : Int64)) + (((p1 / (2 : Int32)).toInt64) / (2 : Int64))))])) (fun _ k => XS.ladd X0.here hx rfl (hb hby own_rm2_d36) rfl k) ?_
    refine own_st (t' := s₁.setTop (mkF m 38 #[.val (.int p1), .val (.long ((p1 / (2 : Int32)).toInt64)), .second] [(.long (1 : Int64)), (.long (((((p1 / (2 : Int32)).toInt64) * (((p1 / (2 : Int32)).toInt64) - (1 : Int64))) / (2 : Int64)) + (((p1 / (2 : Int32)).toInt64) / (2 : Int64))))])) (fun _ k => XS.lconst X0.here hx rfl (hb hby own_rm2_d37) k) ?_
    refine own_st (t' := s₁.setTop (mkF m 39 #[.val (.int p1), .val (.long ((p1 / (2 : Int32)).toInt64)), .second] [(.long ((((((p1 / (2 : Int32)).toInt64) * (((p1 / (2 : Int32)).toInt64) - (1 : Int64))) / (2 : Int64)) + (((p1 / (2 : Int32)).toInt64) / (2 : Int64))) + (1 : Int64)))])) (fun _ k => XS.ladd X0.here hx rfl (hb hby own_rm2_d38) rfl k) ?_
    have hv3 : ((((((p1 / (2 : Int32)).toInt64) * (((p1 / (2 : Int32)).toInt64) - (1 : Int64))) / (2 : Int64)) + (((p1 / (2 : Int32)).toInt64) / (2 : Int64))) + (1 : Int64)) = own_wav p1 := by rw [own_wav, if_neg c9_1]; rfl
    obtain ⟨fs, hr, hrun, hended, hW, hsame⟩ := X0.leave (v := some (.long ((((((p1 / (2 : Int32)).toInt64) * (((p1 / (2 : Int32)).toInt64) - (1 : Int64))) / (2 : Int64)) + (((p1 / (2 : Int32)).toInt64) / (2 : Int64))) + (1 : Int64)))) (fun h => by rw [Bd.returns] at h; cases h)
    exact ⟨_, _, X0.lreturnOut hx Bd.returns (hb hby own_rm2_d39) hr, hrun, hended, hP _ _ ⟨_, _, rfl, ⟨(congrArg (fun z => some (Value.long z)) hv3), N0, e0⟩, ⟨_, rfl⟩, hW, hsame.mono (by decide) (by decide)⟩⟩

theorem own_rm0_pn : plainName "com/example/lambdaloom/lambdaloom/AllToAllRingWavelengthsPinLaw" = true := by first | (simp [plainName, overriddenIn]; done) | decide +kernel
theorem own_rm0_pd0 : parseMethodDescriptor "(II)I" = some ⟨[.int, .int], some .int⟩ := by decide +kernel
theorem own_rm0_pd1 : parseMethodDescriptor "(I)J" = some ⟨[.int], some .long⟩ := by decide +kernel
theorem own_rm0_ef (m : MethodId) (x0 : Int32) : entryFrame m #[(.int x0)] maxLocals = mkF m 0 #[.val (.int x0), .unset, .unset, .unset, .unset, .unset, .unset, .unset, .unset, .unset, .unset] [] := by first | (simp [entryFrame, mkF, argsToLocals, Value.category, maxLocals]; done) | rfl
def own_rm0_Q (Z : State) (p1 : Int32) (h0 : Heap) (n0 : Nat) (v : Option Value) (h : Heap) (L : List Loc) : Prop := v = some (.int ((1 : Int32))) ∧ Fr n0 L
set_option maxRecDepth 65536 in
set_option maxHeartbeats 40000000 in
theorem own_rm0 (l : Launch) (Z : State) (a0 : Array Value) (hw : ∀ d ∈ tables_1, d.before a0 Z = true) (ws : List Jvm.Cond) (p1 : Int32) (h0 : Heap) (n0 : Nat) (Z0 : n0 ≤ h0.size) :
    MetFree l x (head1 (Jvm.Cond.code x code maxLocals ret :: ws) room_1) (fun a U => a = #[(.int p1)] ∧ Z.Warmed39 U.vm ∧ U.heap = h0) (fun _ _ _ _ _ => True) (fun _ U o U' => ∃ v L, o = .returned v ∧ own_rm0_Q Z p1 h0 n0 v U'.heap L ∧ FrameEnd U o U' L room_1.cells room_1.slots) := by
  refine MetFree.of_bodySF (plainFor_of_name own_rm0_pn) hisR ?_
  intro p e s m args below meth c s₁ Bd hml0 hPre hK
  obtain ⟨rfl, hZ, hh⟩ := hPre
  have hx := Bd.exec
  have hby := Bd.bytes
  have hml : c.maxLocals = 11 := hml0
  have hown : s.vm.findClass "com/example/lambdaloom/lambdaloom/AllToAllRingWavelengthsPinLaw" = some m.cls := findClass_of_methodNamed Bd.named
  have hnm := (name_of_methodNamed Bd.named Bd.method).1
  have X0 : Stand p l e room_1 s m #[(.int p1)] below meth c s₁ [] 0 0 := Stand.of_body Bd
  have e0 : s₁.heap = h0 := by rw [← hh, Bd.state]; rfl
  have N0 := Fr.nil n0
  refine own_body fun P hP => ?_
  refine own_st (t' := s₁.setTop (mkF m 0 #[.val (.int p1), .unset, .unset, .unset, .unset, .unset, .unset, .unset, .unset, .unset, .unset] [])) (fun _ k => castTop (own_rm0_ef m p1) k) ?_
  refine own_st (t' := s₁.setTop (mkF m 1 #[.val (.int p1), .unset, .unset, .unset, .unset, .unset, .unset, .unset, .unset, .unset, .unset] [(.int (2 : Int32))])) (fun _ k => XS.iconst X0.here hx rfl (hb hby at_0) k) ?_
  refine own_st (t' := s₁.setTop (mkF m 2 #[.val (.int p1), .unset, .unset, .unset, .unset, .unset, .unset, .unset, .unset, .unset, .unset] [(.int p1), (.int (2 : Int32))])) (fun _ k => XS.iloadN X0.here hx rfl (hb hby at_1) rfl k) ?_
  refine own_st (t' := s₁.setTop (mkF m 4 #[.val (.int p1), .unset, .unset, .unset, .unset, .unset, .unset, .unset, .unset, .unset, .unset] [(.int (1073741823 : Int32)), (.int p1), (.int (2 : Int32))])) (fun _ k => X0.ldcInt hx hown (mvT hZ (hw _ (List.mem_of_getElem? (i := 0) rfl))) (g := (mkF m 2 #[.val (.int p1), .unset, .unset, .unset, .unset, .unset, .unset, .unset, .unset, .unset, .unset] [(.int p1), (.int (2 : Int32))])) rfl (hb hby at_2) _ k) ?_
  refine own_st (t' := s₁.setTop (mkF m 5 #[.val (.int p1), .unset, .unset, .unset, .unset, .unset, .unset, .unset, .unset, .unset, .unset] [(.int (p1 &&& (1073741823 : Int32))), (.int (2 : Int32))])) (fun _ k => XS.iand X0.here hx rfl (hb hby at_4) rfl k) ?_
  obtain ⟨_, _, ⟨T1, L1, k1, n1⟩, -, X1, ⟨Lc1, hQ1, l1, y1, z1⟩, st1⟩ := Jvm.LawKit.callS X0 hx (y := (⟨"java/lang/Math", "max", "(II)I"⟩ : MethodName)) hown (mvT hZ (hw _ (List.mem_of_getElem? (i := 1) rfl))) (mvT hZ (hw _ (List.mem_of_getElem? (i := 2) rfl))) (mvT hZ (hw _ (List.mem_of_getElem? (i := 3) rfl))) (mvT hZ (hw _ (List.mem_of_getElem? (i := 4) rfl))) (by decide) (backOf (W := 0) (own_rm1 l Z a0 hw [] (2 : Int32) (p1 &&& (1073741823 : Int32))  h0 n0 Z0 ) hZ (hw _ (List.mem_of_getElem? (i := 4) rfl)) (hw _ (List.mem_of_getElem? (i := 3) rfl)) (by decide) (by decide)) (g := (mkF m 5 #[.val (.int p1), .unset, .unset, .unset, .unset, .unset, .unset, .unset, .unset, .unset, .unset] [(.int (p1 &&& (1073741823 : Int32))), (.int (2 : Int32))])) rfl (by rw [hml]; rfl) (argsL := [(.int (2 : Int32)), (.int (p1 &&& (1073741823 : Int32)))]) (rest := []) (lenOf own_rm0_pd0 rfl) rfl (by show 2 * 0 + _ ≤ _; exact Nat.le_of_eq rfl) (hb hby at_5) (fun _ _ => ⟨rfl, e0, (by decide : 0 + 0 ≤ _), (by decide : 0 + 0 ≤ _)⟩)
  dsimp only [Pt.U, Pt.locs, Pt.cells, Pt.slots] at X1 l1 y1 z1 st1 hQ1
  subst l1 y1 z1
  obtain ⟨rfl, N1q, e1⟩ := hQ1
  have N1 := Fr.app N0 N1q
  refine own_st (t' := T1.setTop (mkF m 8 #[.val (.int p1), .unset, .unset, .unset, .unset, .unset, .unset, .unset, .unset, .unset, .unset] [(.int (own_max (2 : Int32) (p1 &&& (1073741823 : Int32))))])) st1 ?_
  refine own_st (t' := T1.setTop (mkF m 9 #[.val (.int p1), .val (.int (own_max (2 : Int32) (p1 &&& (1073741823 : Int32)))), .unset, .unset, .unset, .unset, .unset, .unset, .unset, .unset, .unset] [])) (fun _ k => XS.istoreN X1.here hx rfl (hb hby at_8) rfl (l' := #[.val (.int p1), .val (.int (own_max (2 : Int32) (p1 &&& (1073741823 : Int32)))), .unset, .unset, .unset, .unset, .unset, .unset, .unset, .unset, .unset]) rfl k) ?_
  have hb1 := own_mm p1
  generalize (own_max (2 : Int32) (p1 &&& (1073741823 : Int32))) = mm at hb1 ⊢
  refine own_st (t' := T1.setTop (mkF m 10 #[.val (.int p1), .val (.int mm), .unset, .unset, .unset, .unset, .unset, .unset, .unset, .unset, .unset] [(.int (2 : Int32))])) (fun _ k => XS.iconst X1.here hx rfl (hb hby at_9) k) ?_
  refine own_st (t' := T1.setTop (mkF m 11 #[.val (.int p1), .val (.int mm), .unset, .unset, .unset, .unset, .unset, .unset, .unset, .unset, .unset] [(.int mm), (.int (2 : Int32))])) (fun _ k => XS.iloadN X1.here hx rfl (hb hby at_10) rfl k) ?_
  refine own_st (t' := T1.setTop (mkF m 12 #[.val (.int p1), .val (.int mm), .unset, .unset, .unset, .unset, .unset, .unset, .unset, .unset, .unset] [(.int ((2 : Int32) * mm))])) (fun _ k => XS.imul X1.here hx rfl (hb hby at_11) rfl k) ?_
  refine own_st (t' := T1.setTop (mkF m 13 #[.val (.int p1), .val (.int mm), .unset, .unset, .unset, .unset, .unset, .unset, .unset, .unset, .unset] [(.int (1 : Int32)), (.int ((2 : Int32) * mm))])) (fun _ k => XS.iconst X1.here hx rfl (hb hby at_12) k) ?_
  refine own_st (t' := T1.setTop (mkF m 14 #[.val (.int p1), .val (.int mm), .unset, .unset, .unset, .unset, .unset, .unset, .unset, .unset, .unset] [(.int (((2 : Int32) * mm) + (1 : Int32)))])) (fun _ k => XS.iadd X1.here hx rfl (hb hby at_13) rfl k) ?_
  obtain ⟨_, _, ⟨T2, L2, k2, n2⟩, -, X2, ⟨Lc2, hQ2, l2, y2, z2⟩, st2⟩ := Jvm.LawKit.callS X1 hx (y := (⟨"com/example/lambdaloom/lambdaloom/AllToAllRing", "wavelengths", "(I)J"⟩ : MethodName)) hown (mvT hZ (hw _ (List.mem_of_getElem? (i := 5) rfl))) (mvT hZ (hw _ (List.mem_of_getElem? (i := 6) rfl))) (mvT hZ (hw _ (List.mem_of_getElem? (i := 7) rfl))) (mvT hZ (hw _ (List.mem_of_getElem? (i := 8) rfl))) (by decide) (backOf (W := 0) (own_rm2 l Z a0 hw [] (((2 : Int32) * mm) + (1 : Int32))  h0 n0 Z0 ) hZ (hw _ (List.mem_of_getElem? (i := 8) rfl)) (hw _ (List.mem_of_getElem? (i := 7) rfl)) (by decide) (by decide)) (g := (mkF m 14 #[.val (.int p1), .val (.int mm), .unset, .unset, .unset, .unset, .unset, .unset, .unset, .unset, .unset] [(.int (((2 : Int32) * mm) + (1 : Int32)))])) rfl (by rw [hml]; rfl) (argsL := [(.int (((2 : Int32) * mm) + (1 : Int32)))]) (rest := []) (lenOf own_rm0_pd1 rfl) rfl (by show 2 * 0 + _ ≤ _; exact Nat.le_of_eq rfl) (hb hby at_14) (fun _ _ => ⟨rfl, e1, (by decide : 0 + 0 + 0 ≤ _), (by decide : 0 + 0 + 0 ≤ _)⟩)
  dsimp only [Pt.U, Pt.locs, Pt.cells, Pt.slots] at X2 l2 y2 z2 st2 hQ2
  subst l2 y2 z2
  obtain ⟨rfl, N2q, e2⟩ := hQ2
  have N2 := Fr.app N1 N2q
  refine own_st (t' := T2.setTop (mkF m 17 #[.val (.int p1), .val (.int mm), .unset, .unset, .unset, .unset, .unset, .unset, .unset, .unset, .unset] [(.long (own_wav (((2 : Int32) * mm) + (1 : Int32))))])) st2 ?_
  refine own_st (t' := T2.setTop (mkF m 18 #[.val (.int p1), .val (.int mm), .val (.long (own_wav (((2 : Int32) * mm) + (1 : Int32)))), .second, .unset, .unset, .unset, .unset, .unset, .unset, .unset] [])) (fun _ k => XS.lstoreN X2.here hx rfl (hb hby at_17) rfl (l' := #[.val (.int p1), .val (.int mm), .val (.long (own_wav (((2 : Int32) * mm) + (1 : Int32)))), .second, .unset, .unset, .unset, .unset, .unset, .unset, .unset]) rfl k) ?_
  refine own_st (t' := T2.setTop (mkF m 19 #[.val (.int p1), .val (.int mm), .val (.long (own_wav (((2 : Int32) * mm) + (1 : Int32)))), .second, .unset, .unset, .unset, .unset, .unset, .unset, .unset] [(.int (2 : Int32))])) (fun _ k => XS.iconst X2.here hx rfl (hb hby at_18) k) ?_
  refine own_st (t' := T2.setTop (mkF m 20 #[.val (.int p1), .val (.int mm), .val (.long (own_wav (((2 : Int32) * mm) + (1 : Int32)))), .second, .unset, .unset, .unset, .unset, .unset, .unset, .unset] [(.int mm), (.int (2 : Int32))])) (fun _ k => XS.iloadN X2.here hx rfl (hb hby at_19) rfl k) ?_
  refine own_st (t' := T2.setTop (mkF m 21 #[.val (.int p1), .val (.int mm), .val (.long (own_wav (((2 : Int32) * mm) + (1 : Int32)))), .second, .unset, .unset, .unset, .unset, .unset, .unset, .unset] [(.int ((2 : Int32) * mm))])) (fun _ k => XS.imul X2.here hx rfl (hb hby at_20) rfl k) ?_
  refine own_st (t' := T2.setTop (mkF m 22 #[.val (.int p1), .val (.int mm), .val (.long (own_wav (((2 : Int32) * mm) + (1 : Int32)))), .second, .unset, .unset, .unset, .unset, .unset, .unset, .unset] [(.int (1 : Int32)), (.int ((2 : Int32) * mm))])) (fun _ k => XS.iconst X2.here hx rfl (hb hby at_21) k) ?_
  refine own_st (t' := T2.setTop (mkF m 23 #[.val (.int p1), .val (.int mm), .val (.long (own_wav (((2 : Int32) * mm) + (1 : Int32)))), .second, .unset, .unset, .unset, .unset, .unset, .unset, .unset] [(.int (((2 : Int32) * mm) - (1 : Int32)))])) (fun _ k => XS.isub X2.here hx rfl (hb hby at_22) rfl k) ?_
  obtain ⟨_, _, ⟨T3, L3, k3, n3⟩, -, X3, ⟨Lc3, hQ3, l3, y3, z3⟩, st3⟩ := Jvm.LawKit.callS X2 hx (y := (⟨"com/example/lambdaloom/lambdaloom/AllToAllRing", "wavelengths", "(I)J"⟩ : MethodName)) hown (mvT hZ (hw _ (List.mem_of_getElem? (i := 5) rfl))) (mvT hZ (hw _ (List.mem_of_getElem? (i := 6) rfl))) (mvT hZ (hw _ (List.mem_of_getElem? (i := 7) rfl))) (mvT hZ (hw _ (List.mem_of_getElem? (i := 8) rfl))) (by decide) (backOf (W := 0) (own_rm2 l Z a0 hw [] (((2 : Int32) * mm) - (1 : Int32))  h0 n0 Z0 ) hZ (hw _ (List.mem_of_getElem? (i := 8) rfl)) (hw _ (List.mem_of_getElem? (i := 7) rfl)) (by decide) (by decide)) (g := (mkF m 23 #[.val (.int p1), .val (.int mm), .val (.long (own_wav (((2 : Int32) * mm) + (1 : Int32)))), .second, .unset, .unset, .unset, .unset, .unset, .unset, .unset] [(.int (((2 : Int32) * mm) - (1 : Int32)))])) rfl (by rw [hml]; rfl) (argsL := [(.int (((2 : Int32) * mm) - (1 : Int32)))]) (rest := []) (lenOf own_rm0_pd1 rfl) rfl (by show 2 * 0 + _ ≤ _; exact Nat.le_of_eq rfl) (hb hby at_23) (fun _ _ => ⟨rfl, e2, (by decide : 0 + 0 + 0 + 0 ≤ _), (by decide : 0 + 0 + 0 + 0 ≤ _)⟩)
  dsimp only [Pt.U, Pt.locs, Pt.cells, Pt.slots] at X3 l3 y3 z3 st3 hQ3
  subst l3 y3 z3
  obtain ⟨rfl, N3q, e3⟩ := hQ3
  have N3 := Fr.app N2 N3q
  refine own_st (t' := T3.setTop (mkF m 26 #[.val (.int p1), .val (.int mm), .val (.long (own_wav (((2 : Int32) * mm) + (1 : Int32)))), .second, .unset, .unset, .unset, .unset, .unset, .unset, .unset] [(.long (own_wav (((2 : Int32) * mm) - (1 : Int32))))])) st3 ?_
  refine own_st (t' := T3.setTop (mkF m 28 #[.val (.int p1), .val (.int mm), .val (.long (own_wav (((2 : Int32) * mm) + (1 : Int32)))), .second, .val (.long (own_wav (((2 : Int32) * mm) - (1 : Int32)))), .second, .unset, .unset, .unset, .unset, .unset] [])) (fun _ k => XS.lstore X3.here hx rfl (hb hby at_26) rfl (l' := #[.val (.int p1), .val (.int mm), .val (.long (own_wav (((2 : Int32) * mm) + (1 : Int32)))), .second, .val (.long (own_wav (((2 : Int32) * mm) - (1 : Int32)))), .second, .unset, .unset, .unset, .unset, .unset]) rfl k) ?_
  refine own_st (t' := T3.setTop (mkF m 29 #[.val (.int p1), .val (.int mm), .val (.long (own_wav (((2 : Int32) * mm) + (1 : Int32)))), .second, .val (.long (own_wav (((2 : Int32) * mm) - (1 : Int32)))), .second, .unset, .unset, .unset, .unset, .unset] [(.int (2 : Int32))])) (fun _ k => XS.iconst X3.here hx rfl (hb hby at_28) k) ?_
  refine own_st (t' := T3.setTop (mkF m 30 #[.val (.int p1), .val (.int mm), .val (.long (own_wav (((2 : Int32) * mm) + (1 : Int32)))), .second, .val (.long (own_wav (((2 : Int32) * mm) - (1 : Int32)))), .second, .unset, .unset, .unset, .unset, .unset] [(.int mm), (.int (2 : Int32))])) (fun _ k => XS.iloadN X3.here hx rfl (hb hby at_29) rfl k) ?_
  refine own_st (t' := T3.setTop (mkF m 31 #[.val (.int p1), .val (.int mm), .val (.long (own_wav (((2 : Int32) * mm) + (1 : Int32)))), .second, .val (.long (own_wav (((2 : Int32) * mm) - (1 : Int32)))), .second, .unset, .unset, .unset, .unset, .unset] [(.int ((2 : Int32) * mm))])) (fun _ k => XS.imul X3.here hx rfl (hb hby at_30) rfl k) ?_
  obtain ⟨_, _, ⟨T4, L4, k4, n4⟩, -, X4, ⟨Lc4, hQ4, l4, y4, z4⟩, st4⟩ := Jvm.LawKit.callS X3 hx (y := (⟨"com/example/lambdaloom/lambdaloom/AllToAllRing", "wavelengths", "(I)J"⟩ : MethodName)) hown (mvT hZ (hw _ (List.mem_of_getElem? (i := 5) rfl))) (mvT hZ (hw _ (List.mem_of_getElem? (i := 6) rfl))) (mvT hZ (hw _ (List.mem_of_getElem? (i := 7) rfl))) (mvT hZ (hw _ (List.mem_of_getElem? (i := 8) rfl))) (by decide) (backOf (W := 0) (own_rm2 l Z a0 hw [] ((2 : Int32) * mm)  h0 n0 Z0 ) hZ (hw _ (List.mem_of_getElem? (i := 8) rfl)) (hw _ (List.mem_of_getElem? (i := 7) rfl)) (by decide) (by decide)) (g := (mkF m 31 #[.val (.int p1), .val (.int mm), .val (.long (own_wav (((2 : Int32) * mm) + (1 : Int32)))), .second, .val (.long (own_wav (((2 : Int32) * mm) - (1 : Int32)))), .second, .unset, .unset, .unset, .unset, .unset] [(.int ((2 : Int32) * mm))])) rfl (by rw [hml]; rfl) (argsL := [(.int ((2 : Int32) * mm))]) (rest := []) (lenOf own_rm0_pd1 rfl) rfl (by show 2 * 0 + _ ≤ _; exact Nat.le_of_eq rfl) (hb hby at_31) (fun _ _ => ⟨rfl, e3, (by decide : 0 + 0 + 0 + 0 + 0 ≤ _), (by decide : 0 + 0 + 0 + 0 + 0 ≤ _)⟩)
  dsimp only [Pt.U, Pt.locs, Pt.cells, Pt.slots] at X4 l4 y4 z4 st4 hQ4
  subst l4 y4 z4
  obtain ⟨rfl, N4q, e4⟩ := hQ4
  have N4 := Fr.app N3 N4q
  refine own_st (t' := T4.setTop (mkF m 34 #[.val (.int p1), .val (.int mm), .val (.long (own_wav (((2 : Int32) * mm) + (1 : Int32)))), .second, .val (.long (own_wav (((2 : Int32) * mm) - (1 : Int32)))), .second, .unset, .unset, .unset, .unset, .unset] [(.long (own_wav ((2 : Int32) * mm)))])) st4 ?_
  refine own_st (t' := T4.setTop (mkF m 36 #[.val (.int p1), .val (.int mm), .val (.long (own_wav (((2 : Int32) * mm) + (1 : Int32)))), .second, .val (.long (own_wav (((2 : Int32) * mm) - (1 : Int32)))), .second, .val (.long (own_wav ((2 : Int32) * mm))), .second, .unset, .unset, .unset] [])) (fun _ k => XS.lstore X4.here hx rfl (hb hby at_34) rfl (l' := #[.val (.int p1), .val (.int mm), .val (.long (own_wav (((2 : Int32) * mm) + (1 : Int32)))), .second, .val (.long (own_wav (((2 : Int32) * mm) - (1 : Int32)))), .second, .val (.long (own_wav ((2 : Int32) * mm))), .second, .unset, .unset, .unset]) rfl k) ?_
  refine own_st (t' := T4.setTop (mkF m 39 #[.val (.int p1), .val (.int mm), .val (.long (own_wav (((2 : Int32) * mm) + (1 : Int32)))), .second, .val (.long (own_wav (((2 : Int32) * mm) - (1 : Int32)))), .second, .val (.long (own_wav ((2 : Int32) * mm))), .second, .unset, .unset, .unset] [(.long (2 : Int64))])) (fun _ k => X4.ldc2Long hx hown (mvT hZ (hw _ (List.mem_of_getElem? (i := 10) rfl))) (g := (mkF m 36 #[.val (.int p1), .val (.int mm), .val (.long (own_wav (((2 : Int32) * mm) + (1 : Int32)))), .second, .val (.long (own_wav (((2 : Int32) * mm) - (1 : Int32)))), .second, .val (.long (own_wav ((2 : Int32) * mm))), .second, .unset, .unset, .unset] [])) rfl (hb hby at_36) _ k) ?_
  refine own_st (t' := T4.setTop (mkF m 40 #[.val (.int p1), .val (.int mm), .val (.long (own_wav (((2 : Int32) * mm) + (1 : Int32)))), .second, .val (.long (own_wav (((2 : Int32) * mm) - (1 : Int32)))), .second, .val (.long (own_wav ((2 : Int32) * mm))), .second, .unset, .unset, .unset] [(.long (own_wav (((2 : Int32) * mm) + (1 : Int32)))), (.long (2 : Int64))])) (fun _ k => XS.lloadN X4.here hx rfl (hb hby at_39) rfl k) ?_
  refine own_st (t' := T4.setTop (mkF m 41 #[.val (.int p1), .val (.int mm), .val (.long (own_wav (((2 : Int32) * mm) + (1 : Int32)))), .second, .val (.long (own_wav (((2 : Int32) * mm) - (1 : Int32)))), .second, .val (.long (own_wav ((2 : Int32) * mm))), .second, .unset, .unset, .unset] [(.long ((2 : Int64) * (own_wav (((2 : Int32) * mm) + (1 : Int32)))))])) (fun _ k => XS.lmul X4.here hx rfl (hb hby at_40) rfl k) ?_
  refine own_st (t' := T4.setTop (mkF m 42 #[.val (.int p1), .val (.int mm), .val (.long (own_wav (((2 : Int32) * mm) + (1 : Int32)))), .second, .val (.long (own_wav (((2 : Int32) * mm) - (1 : Int32)))), .second, .val (.long (own_wav ((2 : Int32) * mm))), .second, .unset, .unset, .unset] [(.int mm), (.long ((2 : Int64) * (own_wav (((2 : Int32) * mm) + (1 : Int32)))))])) (fun _ k => XS.iloadN X4.here hx rfl (hb hby at_41) rfl k) ?_
  refine own_st (t' := T4.setTop (mkF m 43 #[.val (.int p1), .val (.int mm), .val (.long (own_wav (((2 : Int32) * mm) + (1 : Int32)))), .second, .val (.long (own_wav (((2 : Int32) * mm) - (1 : Int32)))), .second, .val (.long (own_wav ((2 : Int32) * mm))), .second, .unset, .unset, .unset] [(.long (mm.toInt64)), (.long ((2 : Int64) * (own_wav (((2 : Int32) * mm) + (1 : Int32)))))])) (fun _ k => XS.i2l X4.here hx rfl (hb hby at_42) rfl k) ?_
  refine own_st (t' := T4.setTop (mkF m 44 #[.val (.int p1), .val (.int mm), .val (.long (own_wav (((2 : Int32) * mm) + (1 : Int32)))), .second, .val (.long (own_wav (((2 : Int32) * mm) - (1 : Int32)))), .second, .val (.long (own_wav ((2 : Int32) * mm))), .second, .unset, .unset, .unset] [(.int mm), (.long (mm.toInt64)), (.long ((2 : Int64) * (own_wav (((2 : Int32) * mm) + (1 : Int32)))))])) (fun _ k => XS.iloadN X4.here hx rfl (hb hby at_43) rfl k) ?_
  refine own_st (t' := T4.setTop (mkF m 45 #[.val (.int p1), .val (.int mm), .val (.long (own_wav (((2 : Int32) * mm) + (1 : Int32)))), .second, .val (.long (own_wav (((2 : Int32) * mm) - (1 : Int32)))), .second, .val (.long (own_wav ((2 : Int32) * mm))), .second, .unset, .unset, .unset] [(.long (mm.toInt64)), (.long (mm.toInt64)), (.long ((2 : Int64) * (own_wav (((2 : Int32) * mm) + (1 : Int32)))))])) (fun _ k => XS.i2l X4.here hx rfl (hb hby at_44) rfl k) ?_
  refine own_st (t' := T4.setTop (mkF m 46 #[.val (.int p1), .val (.int mm), .val (.long (own_wav (((2 : Int32) * mm) + (1 : Int32)))), .second, .val (.long (own_wav (((2 : Int32) * mm) - (1 : Int32)))), .second, .val (.long (own_wav ((2 : Int32) * mm))), .second, .unset, .unset, .unset] [(.long (1 : Int64)), (.long (mm.toInt64)), (.long (mm.toInt64)), (.long ((2 : Int64) * (own_wav (((2 : Int32) * mm) + (1 : Int32)))))])) (fun _ k => XS.lconst X4.here hx rfl (hb hby at_45) k) ?_
  refine own_st (t' := T4.setTop (mkF m 47 #[.val (.int p1), .val (.int mm), .val (.long (own_wav (((2 : Int32) * mm) + (1 : Int32)))), .second, .val (.long (own_wav (((2 : Int32) * mm) - (1 : Int32)))), .second, .val (.long (own_wav ((2 : Int32) * mm))), .second, .unset, .unset, .unset] [(.long ((mm.toInt64) + (1 : Int64))), (.long (mm.toInt64)), (.long ((2 : Int64) * (own_wav (((2 : Int32) * mm) + (1 : Int32)))))])) (fun _ k => XS.ladd X4.here hx rfl (hb hby at_46) rfl k) ?_
  refine own_st (t' := T4.setTop (mkF m 48 #[.val (.int p1), .val (.int mm), .val (.long (own_wav (((2 : Int32) * mm) + (1 : Int32)))), .second, .val (.long (own_wav (((2 : Int32) * mm) - (1 : Int32)))), .second, .val (.long (own_wav ((2 : Int32) * mm))), .second, .unset, .unset, .unset] [(.long ((mm.toInt64) * ((mm.toInt64) + (1 : Int64)))), (.long ((2 : Int64) * (own_wav (((2 : Int32) * mm) + (1 : Int32)))))])) (fun _ k => XS.lmul X4.here hx rfl (hb hby at_47) rfl k) ?_
  refine own_st (t' := T4.setTop (mkF m 49 #[.val (.int p1), .val (.int mm), .val (.long (own_wav (((2 : Int32) * mm) + (1 : Int32)))), .second, .val (.long (own_wav (((2 : Int32) * mm) - (1 : Int32)))), .second, .val (.long (own_wav ((2 : Int32) * mm))), .second, .unset, .unset, .unset] [(.int (lcmpW ((2 : Int64) * (own_wav (((2 : Int32) * mm) + (1 : Int32)))) ((mm.toInt64) * ((mm.toInt64) + (1 : Int64)))))])) (fun _ k => XS.lcmp X4.here hx rfl (hb hby at_48) rfl k) ?_
  refine own_st (t' := T4.setTop (mkF m 52 #[.val (.int p1), .val (.int mm), .val (.long (own_wav (((2 : Int32) * mm) + (1 : Int32)))), .second, .val (.long (own_wav (((2 : Int32) * mm) - (1 : Int32)))), .second, .val (.long (own_wav ((2 : Int32) * mm))), .second, .unset, .unset, .unset] [])) (fun _ k => XS.ifNo X4.here hx rfl (hb hby at_49) rfl ((if0 _ _).trans (teq (own_lc (own_odd hb1))).2) k) ?_
  refine own_st (t' := T4.setTop (mkF m 53 #[.val (.int p1), .val (.int mm), .val (.long (own_wav (((2 : Int32) * mm) + (1 : Int32)))), .second, .val (.long (own_wav (((2 : Int32) * mm) - (1 : Int32)))), .second, .val (.long (own_wav ((2 : Int32) * mm))), .second, .unset, .unset, .unset] [(.int (1 : Int32))])) (fun _ k => XS.iconst X4.here hx rfl (hb hby at_52) k) ?_
  refine own_st (t' := T4.setTop (mkF m 57 #[.val (.int p1), .val (.int mm), .val (.long (own_wav (((2 : Int32) * mm) + (1 : Int32)))), .second, .val (.long (own_wav (((2 : Int32) * mm) - (1 : Int32)))), .second, .val (.long (own_wav ((2 : Int32) * mm))), .second, .unset, .unset, .unset] [(.int (1 : Int32))])) (fun _ k => XS.goto X4.here hx rfl (pc0 := 53) (pc' := 57) rfl (hb hby at_53) (by decide) (by decide) k) ?_
  refine own_st (t' := T4.setTop (mkF m 59 #[.val (.int p1), .val (.int mm), .val (.long (own_wav (((2 : Int32) * mm) + (1 : Int32)))), .second, .val (.long (own_wav (((2 : Int32) * mm) - (1 : Int32)))), .second, .val (.long (own_wav ((2 : Int32) * mm))), .second, .val (.int (1 : Int32)), .unset, .unset] [])) (fun _ k => XS.istore X4.here hx rfl (hb hby at_57) rfl (l' := #[.val (.int p1), .val (.int mm), .val (.long (own_wav (((2 : Int32) * mm) + (1 : Int32)))), .second, .val (.long (own_wav (((2 : Int32) * mm) - (1 : Int32)))), .second, .val (.long (own_wav ((2 : Int32) * mm))), .second, .val (.int (1 : Int32)), .unset, .unset]) rfl k) ?_
  refine own_st (t' := T4.setTop (mkF m 62 #[.val (.int p1), .val (.int mm), .val (.long (own_wav (((2 : Int32) * mm) + (1 : Int32)))), .second, .val (.long (own_wav (((2 : Int32) * mm) - (1 : Int32)))), .second, .val (.long (own_wav ((2 : Int32) * mm))), .second, .val (.int (1 : Int32)), .unset, .unset] [(.long (2 : Int64))])) (fun _ k => X4.ldc2Long hx hown (mvT hZ (hw _ (List.mem_of_getElem? (i := 10) rfl))) (g := (mkF m 59 #[.val (.int p1), .val (.int mm), .val (.long (own_wav (((2 : Int32) * mm) + (1 : Int32)))), .second, .val (.long (own_wav (((2 : Int32) * mm) - (1 : Int32)))), .second, .val (.long (own_wav ((2 : Int32) * mm))), .second, .val (.int (1 : Int32)), .unset, .unset] [])) rfl (hb hby at_59) _ k) ?_
  refine own_st (t' := T4.setTop (mkF m 64 #[.val (.int p1), .val (.int mm), .val (.long (own_wav (((2 : Int32) * mm) + (1 : Int32)))), .second, .val (.long (own_wav (((2 : Int32) * mm) - (1 : Int32)))), .second, .val (.long (own_wav ((2 : Int32) * mm))), .second, .val (.int (1 : Int32)), .unset, .unset] [(.long (own_wav (((2 : Int32) * mm) - (1 : Int32)))), (.long (2 : Int64))])) (fun _ k => XS.lload X4.here hx rfl (hb hby at_62) rfl k) ?_
  refine own_st (t' := T4.setTop (mkF m 65 #[.val (.int p1), .val (.int mm), .val (.long (own_wav (((2 : Int32) * mm) + (1 : Int32)))), .second, .val (.long (own_wav (((2 : Int32) * mm) - (1 : Int32)))), .second, .val (.long (own_wav ((2 : Int32) * mm))), .second, .val (.int (1 : Int32)), .unset, .unset] [(.long ((2 : Int64) * (own_wav (((2 : Int32) * mm) - (1 : Int32)))))])) (fun _ k => XS.lmul X4.here hx rfl (hb hby at_64) rfl k) ?_
  refine own_st (t' := T4.setTop (mkF m 66 #[.val (.int p1), .val (.int mm), .val (.long (own_wav (((2 : Int32) * mm) + (1 : Int32)))), .second, .val (.long (own_wav (((2 : Int32) * mm) - (1 : Int32)))), .second, .val (.long (own_wav ((2 : Int32) * mm))), .second, .val (.int (1 : Int32)), .unset, .unset] [(.int mm), (.long ((2 : Int64) * (own_wav (((2 : Int32) * mm) - (1 : Int32)))))])) (fun _ k => XS.iloadN X4.here hx rfl (hb hby at_65) rfl k) ?_
  refine own_st (t' := T4.setTop (mkF m 67 #[.val (.int p1), .val (.int mm), .val (.long (own_wav (((2 : Int32) * mm) + (1 : Int32)))), .second, .val (.long (own_wav (((2 : Int32) * mm) - (1 : Int32)))), .second, .val (.long (own_wav ((2 : Int32) * mm))), .second, .val (.int (1 : Int32)), .unset, .unset] [(.long (mm.toInt64)), (.long ((2 : Int64) * (own_wav (((2 : Int32) * mm) - (1 : Int32)))))])) (fun _ k => XS.i2l X4.here hx rfl (hb hby at_66) rfl k) ?_
  refine own_st (t' := T4.setTop (mkF m 68 #[.val (.int p1), .val (.int mm), .val (.long (own_wav (((2 : Int32) * mm) + (1 : Int32)))), .second, .val (.long (own_wav (((2 : Int32) * mm) - (1 : Int32)))), .second, .val (.long (own_wav ((2 : Int32) * mm))), .second, .val (.int (1 : Int32)), .unset, .unset] [(.long (1 : Int64)), (.long (mm.toInt64)), (.long ((2 : Int64) * (own_wav (((2 : Int32) * mm) - (1 : Int32)))))])) (fun _ k => XS.lconst X4.here hx rfl (hb hby at_67) k) ?_
  refine own_st (t' := T4.setTop (mkF m 69 #[.val (.int p1), .val (.int mm), .val (.long (own_wav (((2 : Int32) * mm) + (1 : Int32)))), .second, .val (.long (own_wav (((2 : Int32) * mm) - (1 : Int32)))), .second, .val (.long (own_wav ((2 : Int32) * mm))), .second, .val (.int (1 : Int32)), .unset, .unset] [(.long ((mm.toInt64) - (1 : Int64))), (.long ((2 : Int64) * (own_wav (((2 : Int32) * mm) - (1 : Int32)))))])) (fun _ k => XS.lsub X4.here hx rfl (hb hby at_68) rfl k) ?_
  refine own_st (t' := T4.setTop (mkF m 70 #[.val (.int p1), .val (.int mm), .val (.long (own_wav (((2 : Int32) * mm) + (1 : Int32)))), .second, .val (.long (own_wav (((2 : Int32) * mm) - (1 : Int32)))), .second, .val (.long (own_wav ((2 : Int32) * mm))), .second, .val (.int (1 : Int32)), .unset, .unset] [(.int mm), (.long ((mm.toInt64) - (1 : Int64))), (.long ((2 : Int64) * (own_wav (((2 : Int32) * mm) - (1 : Int32)))))])) (fun _ k => XS.iloadN X4.here hx rfl (hb hby at_69) rfl k) ?_
  refine own_st (t' := T4.setTop (mkF m 71 #[.val (.int p1), .val (.int mm), .val (.long (own_wav (((2 : Int32) * mm) + (1 : Int32)))), .second, .val (.long (own_wav (((2 : Int32) * mm) - (1 : Int32)))), .second, .val (.long (own_wav ((2 : Int32) * mm))), .second, .val (.int (1 : Int32)), .unset, .unset] [(.long (mm.toInt64)), (.long ((mm.toInt64) - (1 : Int64))), (.long ((2 : Int64) * (own_wav (((2 : Int32) * mm) - (1 : Int32)))))])) (fun _ k => XS.i2l X4.here hx rfl (hb hby at_70) rfl k) ?_
  refine own_st (t' := T4.setTop (mkF m 72 #[.val (.int p1), .val (.int mm), .val (.long (own_wav (((2 : Int32) * mm) + (1 : Int32)))), .second, .val (.long (own_wav (((2 : Int32) * mm) - (1 : Int32)))), .second, .val (.long (own_wav ((2 : Int32) * mm))), .second, .val (.int (1 : Int32)), .unset, .unset] [(.long (((mm.toInt64) - (1 : Int64)) * (mm.toInt64))), (.long ((2 : Int64) * (own_wav (((2 : Int32) * mm) - (1 : Int32)))))])) (fun _ k => XS.lmul X4.here hx rfl (hb hby at_71) rfl k) ?_
  refine own_st (t' := T4.setTop (mkF m 73 #[.val (.int p1), .val (.int mm), .val (.long (own_wav (((2 : Int32) * mm) + (1 : Int32)))), .second, .val (.long (own_wav (((2 : Int32) * mm) - (1 : Int32)))), .second, .val (.long (own_wav ((2 : Int32) * mm))), .second, .val (.int (1 : Int32)), .unset, .unset] [(.int (lcmpW ((2 : Int64) * (own_wav (((2 : Int32) * mm) - (1 : Int32)))) (((mm.toInt64) - (1 : Int64)) * (mm.toInt64))))])) (fun _ k => XS.lcmp X4.here hx rfl (hb hby at_72) rfl k) ?_
  refine own_st (t' := T4.setTop (mkF m 76 #[.val (.int p1), .val (.int mm), .val (.long (own_wav (((2 : Int32) * mm) + (1 : Int32)))), .second, .val (.long (own_wav (((2 : Int32) * mm) - (1 : Int32)))), .second, .val (.long (own_wav ((2 : Int32) * mm))), .second, .val (.int (1 : Int32)), .unset, .unset] [])) (fun _ k => XS.ifNo X4.here hx rfl (hb hby at_73) rfl ((if0 _ _).trans (teq (own_lc (own_low hb1))).2) k) ?_
  refine own_st (t' := T4.setTop (mkF m 77 #[.val (.int p1), .val (.int mm), .val (.long (own_wav (((2 : Int32) * mm) + (1 : Int32)))), .second, .val (.long (own_wav (((2 : Int32) * mm) - (1 : Int32)))), .second, .val (.long (own_wav ((2 : Int32) * mm))), .second, .val (.int (1 : Int32)), .unset, .unset] [(.int (1 : Int32))])) (fun _ k => XS.iconst X4.here hx rfl (hb hby at_76) k) ?_
  refine own_st (t' := T4.setTop (mkF m 81 #[.val (.int p1), .val (.int mm), .val (.long (own_wav (((2 : Int32) * mm) + (1 : Int32)))), .second, .val (.long (own_wav (((2 : Int32) * mm) - (1 : Int32)))), .second, .val (.long (own_wav ((2 : Int32) * mm))), .second, .val (.int (1 : Int32)), .unset, .unset] [(.int (1 : Int32))])) (fun _ k => XS.goto X4.here hx rfl (pc0 := 77) (pc' := 81) rfl (hb hby at_77) (by decide) (by decide) k) ?_
  refine own_st (t' := T4.setTop (mkF m 83 #[.val (.int p1), .val (.int mm), .val (.long (own_wav (((2 : Int32) * mm) + (1 : Int32)))), .second, .val (.long (own_wav (((2 : Int32) * mm) - (1 : Int32)))), .second, .val (.long (own_wav ((2 : Int32) * mm))), .second, .val (.int (1 : Int32)), .val (.int (1 : Int32)), .unset] [])) (fun _ k => XS.istore X4.here hx rfl (hb hby at_81) rfl (l' := #[.val (.int p1), .val (.int mm), .val (.long (own_wav (((2 : Int32) * mm) + (1 : Int32)))), .second, .val (.long (own_wav (((2 : Int32) * mm) - (1 : Int32)))), .second, .val (.long (own_wav ((2 : Int32) * mm))), .second, .val (.int (1 : Int32)), .val (.int (1 : Int32)), .unset]) rfl k) ?_
  refine own_st (t' := T4.setTop (mkF m 85 #[.val (.int p1), .val (.int mm), .val (.long (own_wav (((2 : Int32) * mm) + (1 : Int32)))), .second, .val (.long (own_wav (((2 : Int32) * mm) - (1 : Int32)))), .second, .val (.long (own_wav ((2 : Int32) * mm))), .second, .val (.int (1 : Int32)), .val (.int (1 : Int32)), .unset] [(.long (own_wav ((2 : Int32) * mm)))])) (fun _ k => XS.lload X4.here hx rfl (hb hby at_83) rfl k) ?_
  refine own_st (t' := T4.setTop (mkF m 87 #[.val (.int p1), .val (.int mm), .val (.long (own_wav (((2 : Int32) * mm) + (1 : Int32)))), .second, .val (.long (own_wav (((2 : Int32) * mm) - (1 : Int32)))), .second, .val (.long (own_wav ((2 : Int32) * mm))), .second, .val (.int (1 : Int32)), .val (.int (1 : Int32)), .unset] [(.long (own_wav (((2 : Int32) * mm) - (1 : Int32)))), (.long (own_wav ((2 : Int32) * mm)))])) (fun _ k => XS.lload X4.here hx rfl (hb hby at_85) rfl k) ?_
  refine own_st (t' := T4.setTop (mkF m 88 #[.val (.int p1), .val (.int mm), .val (.long (own_wav (((2 : Int32) * mm) + (1 : Int32)))), .second, .val (.long (own_wav (((2 : Int32) * mm) - (1 : Int32)))), .second, .val (.long (own_wav ((2 : Int32) * mm))), .second, .val (.int (1 : Int32)), .val (.int (1 : Int32)), .unset] [(.int mm), (.long (own_wav (((2 : Int32) * mm) - (1 : Int32)))), (.long (own_wav ((2 : Int32) * mm)))])) (fun _ k => XS.iloadN X4.here hx rfl (hb hby at_87) rfl k) ?_
  refine own_st (t' := T4.setTop (mkF m 89 #[.val (.int p1), .val (.int mm), .val (.long (own_wav (((2 : Int32) * mm) + (1 : Int32)))), .second, .val (.long (own_wav (((2 : Int32) * mm) - (1 : Int32)))), .second, .val (.long (own_wav ((2 : Int32) * mm))), .second, .val (.int (1 : Int32)), .val (.int (1 : Int32)), .unset] [(.int (2 : Int32)), (.int mm), (.long (own_wav (((2 : Int32) * mm) - (1 : Int32)))), (.long (own_wav ((2 : Int32) * mm)))])) (fun _ k => XS.iconst X4.here hx rfl (hb hby at_88) k) ?_
  refine own_st (t' := T4.setTop (mkF m 90 #[.val (.int p1), .val (.int mm), .val (.long (own_wav (((2 : Int32) * mm) + (1 : Int32)))), .second, .val (.long (own_wav (((2 : Int32) * mm) - (1 : Int32)))), .second, .val (.long (own_wav ((2 : Int32) * mm))), .second, .val (.int (1 : Int32)), .val (.int (1 : Int32)), .unset] [(.int (mm / (2 : Int32))), (.long (own_wav (((2 : Int32) * mm) - (1 : Int32)))), (.long (own_wav ((2 : Int32) * mm)))])) (fun _ k => XS.idiv X4.here hx rfl (hb hby at_89) rfl (by decide) k) ?_
  refine own_st (t' := T4.setTop (mkF m 91 #[.val (.int p1), .val (.int mm), .val (.long (own_wav (((2 : Int32) * mm) + (1 : Int32)))), .second, .val (.long (own_wav (((2 : Int32) * mm) - (1 : Int32)))), .second, .val (.long (own_wav ((2 : Int32) * mm))), .second, .val (.int (1 : Int32)), .val (.int (1 : Int32)), .unset] [(.long ((mm / (2 : Int32)).toInt64)), (.long (own_wav (((2 : Int32) * mm) - (1 : Int32)))), (.long (own_wav ((2 : Int32) * mm)))])) (fun _ k => XS.i2l X4.here hx rfl (hb hby at_90) rfl k) ?_
  refine own_st (t' := T4.setTop (mkF m 92 #[.val (.int p1), .val (.int mm), .val (.long (own_wav (((2 : Int32) * mm) + (1 : Int32)))), .second, .val (.long (own_wav (((2 : Int32) * mm) - (1 : Int32)))), .second, .val (.long (own_wav ((2 : Int32) * mm))), .second, .val (.int (1 : Int32)), .val (.int (1 : Int32)), .unset] [(.long ((own_wav (((2 : Int32) * mm) - (1 : Int32))) + ((mm / (2 : Int32)).toInt64))), (.long (own_wav ((2 : Int32) * mm)))])) (fun _ k => XS.ladd X4.here hx rfl (hb hby at_91) rfl k) ?_
  refine own_st (t' := T4.setTop (mkF m 93 #[.val (.int p1), .val (.int mm), .val (.long (own_wav (((2 : Int32) * mm) + (1 : Int32)))), .second, .val (.long (own_wav (((2 : Int32) * mm) - (1 : Int32)))), .second, .val (.long (own_wav ((2 : Int32) * mm))), .second, .val (.int (1 : Int32)), .val (.int (1 : Int32)), .unset] [(.long (1 : Int64)), (.long ((own_wav (((2 : Int32) * mm) - (1 : Int32))) + ((mm / (2 : Int32)).toInt64))), (.long (own_wav ((2 : Int32) * mm)))])) (fun _ k => XS.lconst X4.here hx rfl (hb hby at_92) k) ?_
  refine own_st (t' := T4.setTop (mkF m 94 #[.val (.int p1), .val (.int mm), .val (.long (own_wav (((2 : Int32) * mm) + (1 : Int32)))), .second, .val (.long (own_wav (((2 : Int32) * mm) - (1 : Int32)))), .second, .val (.long (own_wav ((2 : Int32) * mm))), .second, .val (.int (1 : Int32)), .val (.int (1 : Int32)), .unset] [(.long (((own_wav (((2 : Int32) * mm) - (1 : Int32))) + ((mm / (2 : Int32)).toInt64)) + (1 : Int64))), (.long (own_wav ((2 : Int32) * mm)))])) (fun _ k => XS.ladd X4.here hx rfl (hb hby at_93) rfl k) ?_
  refine own_st (t' := T4.setTop (mkF m 95 #[.val (.int p1), .val (.int mm), .val (.long (own_wav (((2 : Int32) * mm) + (1 : Int32)))), .second, .val (.long (own_wav (((2 : Int32) * mm) - (1 : Int32)))), .second, .val (.long (own_wav ((2 : Int32) * mm))), .second, .val (.int (1 : Int32)), .val (.int (1 : Int32)), .unset] [(.int (lcmpW (own_wav ((2 : Int32) * mm)) (((own_wav (((2 : Int32) * mm) - (1 : Int32))) + ((mm / (2 : Int32)).toInt64)) + (1 : Int64))))])) (fun _ k => XS.lcmp X4.here hx rfl (hb hby at_94) rfl k) ?_
  refine own_st (t' := T4.setTop (mkF m 98 #[.val (.int p1), .val (.int mm), .val (.long (own_wav (((2 : Int32) * mm) + (1 : Int32)))), .second, .val (.long (own_wav (((2 : Int32) * mm) - (1 : Int32)))), .second, .val (.long (own_wav ((2 : Int32) * mm))), .second, .val (.int (1 : Int32)), .val (.int (1 : Int32)), .unset] [])) (fun _ k => XS.ifNo X4.here hx rfl (hb hby at_95) rfl ((if0 _ _).trans (teq (own_lc (own_even hb1))).2) k) ?_
  refine own_st (t' := T4.setTop (mkF m 99 #[.val (.int p1), .val (.int mm), .val (.long (own_wav (((2 : Int32) * mm) + (1 : Int32)))), .second, .val (.long (own_wav (((2 : Int32) * mm) - (1 : Int32)))), .second, .val (.long (own_wav ((2 : Int32) * mm))), .second, .val (.int (1 : Int32)), .val (.int (1 : Int32)), .unset] [(.int (1 : Int32))])) (fun _ k => XS.iconst X4.here hx rfl (hb hby at_98) k) ?_
  refine own_st (t' := T4.setTop (mkF m 103 #[.val (.int p1), .val (.int mm), .val (.long (own_wav (((2 : Int32) * mm) + (1 : Int32)))), .second, .val (.long (own_wav (((2 : Int32) * mm) - (1 : Int32)))), .second, .val (.long (own_wav ((2 : Int32) * mm))), .second, .val (.int (1 : Int32)), .val (.int (1 : Int32)), .unset] [(.int (1 : Int32))])) (fun _ k => XS.goto X4.here hx rfl (pc0 := 99) (pc' := 103) rfl (hb hby at_99) (by decide) (by decide) k) ?_
  refine own_st (t' := T4.setTop (mkF m 105 #[.val (.int p1), .val (.int mm), .val (.long (own_wav (((2 : Int32) * mm) + (1 : Int32)))), .second, .val (.long (own_wav (((2 : Int32) * mm) - (1 : Int32)))), .second, .val (.long (own_wav ((2 : Int32) * mm))), .second, .val (.int (1 : Int32)), .val (.int (1 : Int32)), .val (.int (1 : Int32))] [])) (fun _ k => XS.istore X4.here hx rfl (hb hby at_103) rfl (l' := #[.val (.int p1), .val (.int mm), .val (.long (own_wav (((2 : Int32) * mm) + (1 : Int32)))), .second, .val (.long (own_wav (((2 : Int32) * mm) - (1 : Int32)))), .second, .val (.long (own_wav ((2 : Int32) * mm))), .second, .val (.int (1 : Int32)), .val (.int (1 : Int32)), .val (.int (1 : Int32))]) rfl k) ?_
  refine own_st (t' := T4.setTop (mkF m 107 #[.val (.int p1), .val (.int mm), .val (.long (own_wav (((2 : Int32) * mm) + (1 : Int32)))), .second, .val (.long (own_wav (((2 : Int32) * mm) - (1 : Int32)))), .second, .val (.long (own_wav ((2 : Int32) * mm))), .second, .val (.int (1 : Int32)), .val (.int (1 : Int32)), .val (.int (1 : Int32))] [(.int (1 : Int32))])) (fun _ k => XS.iload X4.here hx rfl (hb hby at_105) rfl k) ?_
  refine own_st (t' := T4.setTop (mkF m 110 #[.val (.int p1), .val (.int mm), .val (.long (own_wav (((2 : Int32) * mm) + (1 : Int32)))), .second, .val (.long (own_wav (((2 : Int32) * mm) - (1 : Int32)))), .second, .val (.long (own_wav ((2 : Int32) * mm))), .second, .val (.int (1 : Int32)), .val (.int (1 : Int32)), .val (.int (1 : Int32))] [])) (fun _ k => XS.ifNo X4.here hx rfl (hb hby at_107) rfl ((if0 _ _).trans (feq (by decide : ¬ ((1 : Int32) = (0 : Int32)))).1) k) ?_
  refine own_st (t' := T4.setTop (mkF m 112 #[.val (.int p1), .val (.int mm), .val (.long (own_wav (((2 : Int32) * mm) + (1 : Int32)))), .second, .val (.long (own_wav (((2 : Int32) * mm) - (1 : Int32)))), .second, .val (.long (own_wav ((2 : Int32) * mm))), .second, .val (.int (1 : Int32)), .val (.int (1 : Int32)), .val (.int (1 : Int32))] [(.int (1 : Int32))])) (fun _ k => XS.iload X4.here hx rfl (hb hby at_110) rfl k) ?_
  refine own_st (t' := T4.setTop (mkF m 115 #[.val (.int p1), .val (.int mm), .val (.long (own_wav (((2 : Int32) * mm) + (1 : Int32)))), .second, .val (.long (own_wav (((2 : Int32) * mm) - (1 : Int32)))), .second, .val (.long (own_wav ((2 : Int32) * mm))), .second, .val (.int (1 : Int32)), .val (.int (1 : Int32)), .val (.int (1 : Int32))] [])) (fun _ k => XS.ifNo X4.here hx rfl (hb hby at_112) rfl ((if0 _ _).trans (feq (by decide : ¬ ((1 : Int32) = (0 : Int32)))).1) k) ?_
  refine own_st (t' := T4.setTop (mkF m 117 #[.val (.int p1), .val (.int mm), .val (.long (own_wav (((2 : Int32) * mm) + (1 : Int32)))), .second, .val (.long (own_wav (((2 : Int32) * mm) - (1 : Int32)))), .second, .val (.long (own_wav ((2 : Int32) * mm))), .second, .val (.int (1 : Int32)), .val (.int (1 : Int32)), .val (.int (1 : Int32))] [(.int (1 : Int32))])) (fun _ k => XS.iload X4.here hx rfl (hb hby at_115) rfl k) ?_
  refine own_st (t' := T4.setTop (mkF m 120 #[.val (.int p1), .val (.int mm), .val (.long (own_wav (((2 : Int32) * mm) + (1 : Int32)))), .second, .val (.long (own_wav (((2 : Int32) * mm) - (1 : Int32)))), .second, .val (.long (own_wav ((2 : Int32) * mm))), .second, .val (.int (1 : Int32)), .val (.int (1 : Int32)), .val (.int (1 : Int32))] [])) (fun _ k => XS.ifNo X4.here hx rfl (hb hby at_117) rfl ((if0 _ _).trans (feq (by decide : ¬ ((1 : Int32) = (0 : Int32)))).1) k) ?_
  refine own_st (t' := T4.setTop (mkF m 121 #[.val (.int p1), .val (.int mm), .val (.long (own_wav (((2 : Int32) * mm) + (1 : Int32)))), .second, .val (.long (own_wav (((2 : Int32) * mm) - (1 : Int32)))), .second, .val (.long (own_wav ((2 : Int32) * mm))), .second, .val (.int (1 : Int32)), .val (.int (1 : Int32)), .val (.int (1 : Int32))] [(.int (1 : Int32))])) (fun _ k => XS.iconst X4.here hx rfl (hb hby at_120) k) ?_
  refine own_st (t' := T4.setTop (mkF m 125 #[.val (.int p1), .val (.int mm), .val (.long (own_wav (((2 : Int32) * mm) + (1 : Int32)))), .second, .val (.long (own_wav (((2 : Int32) * mm) - (1 : Int32)))), .second, .val (.long (own_wav ((2 : Int32) * mm))), .second, .val (.int (1 : Int32)), .val (.int (1 : Int32)), .val (.int (1 : Int32))] [(.int (1 : Int32))])) (fun _ k => XS.goto X4.here hx rfl (pc0 := 121) (pc' := 125) rfl (hb hby at_121) (by decide) (by decide) k) ?_
  have hv5 : (1 : Int32) = (1 : Int32) := rfl
  obtain ⟨fs, hr, hrun, hended, hW, hsame⟩ := X4.leave (v := some (.int (1 : Int32))) (fun h => by rw [Bd.returns] at h; cases h)
  exact ⟨_, _, retN X4 hx (t := .boolean) Bd.returns (by simp) (hb hby at_125) hr, hrun, hended, hP _ _ ⟨_, _, rfl, ⟨(congrArg (fun z => some (Value.int z)) hv5), N4⟩, ⟨_, rfl⟩, hW, hsame.mono (by decide) (by decide)⟩⟩

set_option maxRecDepth 65536 in
set_option maxHeartbeats 40000000 in
theorem comes_1 {Post : Tables → Env → Array Value → State → Outcome → State → Prop} (hpost : ∀ tb e args s v u, (limb_1_1.after args s (.returned v) u = true ∧ limb_1_2.after args s (.returned v) u = true ∧ True) → FrameEnd s (.returned v) u (Jvm.fieldLocs frame_1_writes args s ++ Jvm.arrayLocs frame_1_arrays args s ++ Jvm.staticLocs frame_1_statics s) 0 0 → Post tb e args s (.returned v) u) :
    ArmFor flags0 classFile x code maxLocals ret World_1 tables_1 room_1 Calls_1 rest_1 Pre_1 Post := by
  intro l hfl _ _ p e ha hc hk s m args below hf hA hF happ hP
  obtain ⟨hcalls, hrest, hpre⟩ := hP
  obtain ⟨-, -, -, hnamed, -, -, -, hat⟩ := (Spec.applies_iff hf).mp happ
  obtain ⟨hg, hn⟩ := and_e (Cond.before_iff.mp (show (Jvm.Cond.and given_1 narrow_1).before args s = true from hpre))
  obtain ⟨hcnt, hg0⟩ := and_e hg
  obtain ⟨w0, rfl⟩ : ∃ w0 : Value, args = #[w0] := by
    have hs : args.size = 1 := by simpa [Cond.value, given_1] using hcnt
    obtain ⟨L⟩ := args
    match L, hs with
    | [w0], _ => exact ⟨w0, rfl⟩
  have hw := fun d (hd : d ∈ tables_1) => atoms_spec (ws := Jvm.Cond.code x code maxLocals ret :: tables_1) hat d (List.mem_cons_of_mem _ hd)
  have hfit : Fit s := fun {y c} hc i hi => by
    obtain ⟨ha, rfl⟩ := Array.getElem?_eq_some_iff.mp hc
    have q := List.all_eq_true.mp ((Array.all_eq_true_iff_forall_mem.mp hF) _ (Array.getElem_mem ha)) i (List.mem_range.mpr hi)
    simpa [Array.getElem?_eq_getElem hi] using q
  obtain ⟨i0, ei0⟩ := is_v hg0
  obtain rfl : w0 = (.int i0) := Option.some.inj ei0
  obtain ⟨n, o, h1, h2, h3, _, L, rfl, ⟨rfl, N⟩, hq⟩ := own_rm0 l s _ hw tables_1 i0  s.heap s.heap.size (Nat.le_refl _)  p e ha hc hk s m _ below hf ((Spec.applies_iff_loose hf).mp happ).1 ⟨rfl, State.Warmed39.refl s, rfl⟩ trivial
  refine ⟨n, _, h1, h2, h3, hpost _ _ _ _ _ _ ⟨Cond.after_iff.mpr rfl, Cond.after_iff.mpr (eq_i res_at (Term.int_eval (1)) rfl), trivial⟩ ⟨hq.1, hq.2.1, (hq.2.2.sift fun y hy => Or.inr (N y hy)).mono (by decide) (by decide)⟩⟩
theorem main_1_1 : Claimed_1_1 := comes_1 fun _ _ _ _ _ _ h hF => ⟨h.1, hF⟩
theorem main_1_2 : Claimed_1_2 := comes_1 fun _ _ _ _ _ _ h hF => ⟨h.2.1, hF⟩
end Jvm.Pilot.@@N@@
namespace Jvm.Pilot.@@N@@
open Jvm Jvm.ClassFile Sem Op Lib Jvm.Free Jvm.Stand Jvm.Pilot.@@N@@.Jvm.D
/-! MADE BY PROGRAM (witnessworld.py) out of the Statement's table words and the real class files: 10 classes; the members and pool entries that the words name. The judged class is class 1, her method 1. -/
namespace start1
open Jvm.ClassFile
def u (s : String) : CpInfo := .utf8 (stringToUtf16 s)
/-- a pool by its gaps: so many unusable entries, then the entry; so many at the end -/
def gap : Nat → List CpInfo → List CpInfo
  | 0, r => r
  | n + 1, r => .unusable :: gap n r
def poolList (es : List (Nat × CpInfo)) (last : Nat) : List CpInfo := es.foldr (fun e r => gap e.1 (e.2 :: r)) (gap last [])
def pool (es : List (Nat × CpInfo)) (last : Nat) : Array CpInfo := ⟨poolList es last⟩
def fileOf (pool : Array CpInfo) (this : Nat) (attrs : Array Attribute := #[]) (ms : Array MethodInfo := #[]) (fl : Nat := 33) (sup : Nat := 0) (ifs : Array Nat := #[]) (fds : Array FieldInfo := #[]) : ClassFile where
  minorVersion := 0
  majorVersion := 65
  constantPool := pool
  accessFlags := fl
  thisClass := this
  superClass := sup
  interfaces := ifs
  fields := fds
  methods := ms
  attributes := attrs
def plain (name : String) (sup : Option ClassId) : Class where
  name := name
  kind := .ordinary
  loader := none
  accessFlags := 33
  super := sup
  interfaces := #[]
  cf := none
  fields := #[]
  methods := #[]
  instanceTypes := #[]
  staticTypes := #[]
  resolved := #[]
  callSites := []
  init := .initialized
  statics := none
  mirror := none

def pool0 : Array CpInfo := pool [(5, u "<init>"), (0, u "()V"), (1, .class_ 10), (1, u "java/lang/Object")] 113

def k0m0 : Method := { name := "<init>", desc := "()V", sig := { parameters := [], returnType := none }, accessFlags := 1, code := none }
/-- java/lang/Object -/
def k0 : Class := { plain "java/lang/Object" none with
  accessFlags := 33
  interfaces := #[]
  cf := some (fileOf pool0 8 #[] #[{ accessFlags := 1, nameIndex := 5, descriptorIndex := 6, attributes := #[] }] 33 0 #[] #[])
  fields := #[]
  methods := #[k0m0]
  instanceTypes := #[]
  staticTypes := #[]
  resolved := Array.replicate 124 none
  statics := none }

def pool1 : Array CpInfo := pool [(2, .class_ 4), (1, u "java/lang/Object"), (0, u "<init>"), (0, u "()V"), (0, .integer 1073741823), (0, .methodref 9 10), (0, .class_ 11), (0, .nameAndType 12 13), (0, u "java/lang/Math"), (0, u "max"), (0, u "(II)I"), (0, .methodref 15 16), (0, .class_ 17), (0, .nameAndType 18 19), (0, u "com/example/lambdaloom/lambdaloom/AllToAllRing"), (0, u "wavelengths"), (0, u "(I)J"), (0, .long 2), (1, .class_ 23), (0, u "com/example/lambdaloom/lambdaloom/AllToAllRingWavelengthsPinLaw"), (2, u "law"), (0, u "(I)Z")] 3

def k1m0 : Method := { name := "<init>", desc := "()V", sig := { parameters := [], returnType := none }, accessFlags := 2, code := none }
def k1c1 : Code := { maxStack := 8, maxLocals := 11, code := code, exceptionTable := #[], attributes := #[] }
def k1m1 : Method := { name := "law", desc := "(I)Z", sig := { parameters := [.int], returnType := some .boolean }, accessFlags := 9, code := some k1c1 }
/-- com/example/lambdaloom/lambdaloom/AllToAllRingWavelengthsPinLaw -/
def k1 : Class := { plain "com/example/lambdaloom/lambdaloom/AllToAllRingWavelengthsPinLaw" (some 0) with
  accessFlags := 49
  interfaces := #[]
  cf := some (fileOf pool1 22 #[] #[{ accessFlags := 2, nameIndex := 5, descriptorIndex := 6, attributes := #[] }, { accessFlags := 9, nameIndex := 26, descriptorIndex := 27, attributes := #[] }] 49 2 #[] #[])
  fields := #[]
  methods := #[k1m0, k1m1]
  instanceTypes := #[]
  staticTypes := #[]
  resolved := Array.replicate 31 none
  statics := none }

def pool2 : Array CpInfo := pool [(1, .class_ 2), (0, u "java/lang/Math"), (1, .class_ 6), (1, u "java/lang/Object"), (0, u "<init>"), (0, u "()V"), (89, .class_ 100), (1, u "java/lang/Math$RandomNumberGeneratorHolder"), (71, u "negativeZeroFloatBits"), (0, u "J"), (2, u "negativeZeroDoubleBits"), (21, u "max"), (46, u "$assertionsDisabled"), (0, u "Z"), (88, u "(II)I"), (2, u "twoToTheDoubleScaleDown"), (0, u "D"), (4, u "twoToTheDoubleScaleUp"), (9, u "E"), (3, u "PI"), (2, u "TAU"), (2, u "DEGREES_TO_RADIANS"), (0, u "RADIANS_TO_DEGREES")] 94

def k2m0 : Method := { name := "<init>", desc := "()V", sig := { parameters := [], returnType := none }, accessFlags := 2, code := none }
def k2c1 : Code := { maxStack := 2, maxLocals := 2, code := jdk_29_method_65_code, exceptionTable := #[], attributes := #[] }
def k2m1 : Method := { name := "max", desc := "(II)I", sig := { parameters := [.int, .int], returnType := some .int }, accessFlags := 9, code := some k2c1 }
/-- java/lang/Math -/
def k2 : Class := { plain "java/lang/Math" (some 0) with
  accessFlags := 49
  interfaces := #[]
  cf := some (fileOf pool2 1 #[.nestMembers #[98]] #[{ accessFlags := 2, nameIndex := 7, descriptorIndex := 8, attributes := #[] }, { accessFlags := 9, nameIndex := 198, descriptorIndex := 335, attributes := #[] }] 49 4 #[] #[{ accessFlags := 25, nameIndex := 354, descriptorIndex := 339, attributes := #[] }, { accessFlags := 25, nameIndex := 358, descriptorIndex := 339, attributes := #[] }, { accessFlags := 25, nameIndex := 361, descriptorIndex := 339, attributes := #[] }, { accessFlags := 26, nameIndex := 364, descriptorIndex := 339, attributes := #[] }, { accessFlags := 26, nameIndex := 365, descriptorIndex := 339, attributes := #[] }, { accessFlags := 26, nameIndex := 172, descriptorIndex := 173, attributes := #[] }, { accessFlags := 26, nameIndex := 176, descriptorIndex := 173, attributes := #[] }, { accessFlags := 8, nameIndex := 344, descriptorIndex := 339, attributes := #[] }, { accessFlags := 8, nameIndex := 338, descriptorIndex := 339, attributes := #[] }, { accessFlags := 4120, nameIndex := 245, descriptorIndex := 246, attributes := #[] }])
  fields := #[{ name := "E", type := .double, accessFlags := 25, slot := 0, constantValue := 0 }, { name := "PI", type := .double, accessFlags := 25, slot := 1, constantValue := 0 }, { name := "TAU", type := .double, accessFlags := 25, slot := 2, constantValue := 0 }, { name := "DEGREES_TO_RADIANS", type := .double, accessFlags := 26, slot := 3, constantValue := 0 }, { name := "RADIANS_TO_DEGREES", type := .double, accessFlags := 26, slot := 4, constantValue := 0 }, { name := "negativeZeroFloatBits", type := .long, accessFlags := 26, slot := 5, constantValue := 0 }, { name := "negativeZeroDoubleBits", type := .long, accessFlags := 26, slot := 6, constantValue := 0 }, { name := "twoToTheDoubleScaleUp", type := .double, accessFlags := 8, slot := 7, constantValue := 0 }, { name := "twoToTheDoubleScaleDown", type := .double, accessFlags := 8, slot := 8, constantValue := 0 }, { name := "$assertionsDisabled", type := .boolean, accessFlags := 4120, slot := 9, constantValue := 0 }]
  methods := #[k2m0, k2m1]
  instanceTypes := #[]
  staticTypes := #[.double, .double, .double, .double, .double, .long, .long, .double, .double, .boolean]
  resolved := Array.replicate 460 none
  statics := none }

def pool3 : Array CpInfo := pool [(2, .class_ 4), (1, u "java/lang/Object"), (3, .class_ 10), (1, u "com/example/lambdaloom/lambdaloom/AllToAllRing"), (0, u "network"), (0, u "Lcom/example/lambdaloom/lambdaloom/Network;"), (2, u "ring"), (0, u "Lcom/example/lambdaloom/lambdaloom/Ring;"), (2, u "carriers"), (0, u "[I"), (16, .long 2), (54, u "wavelengths"), (0, u "(I)J"), (29, .class_ 124), (0, u "com/example/lambdaloom/lambdaloom/AllToAllRing$Arc")] 77

def k3c0 : Code := { maxStack := 6, maxLocals := 3, code := prog_1_method_4_code, exceptionTable := #[], attributes := #[] }
def k3m0 : Method := { name := "wavelengths", desc := "(I)J", sig := { parameters := [.int], returnType := some .long }, accessFlags := 8, code := some k3c0 }
/-- com/example/lambdaloom/lambdaloom/AllToAllRing -/
def k3 : Class := { plain "com/example/lambdaloom/lambdaloom/AllToAllRing" (some 0) with
  accessFlags := 48
  interfaces := #[]
  cf := some (fileOf pool3 8 #[.nestMembers #[123]] #[{ accessFlags := 8, nameIndex := 92, descriptorIndex := 93, attributes := #[] }] 48 2 #[] #[{ accessFlags := 18, nameIndex := 11, descriptorIndex := 12, attributes := #[] }, { accessFlags := 18, nameIndex := 15, descriptorIndex := 16, attributes := #[] }, { accessFlags := 18, nameIndex := 19, descriptorIndex := 20, attributes := #[] }])
  fields := #[{ name := "network", type := (.object "com/example/lambdaloom/lambdaloom/Network"), accessFlags := 18, slot := 0, constantValue := 0 }, { name := "ring", type := (.object "com/example/lambdaloom/lambdaloom/Ring"), accessFlags := 18, slot := 1, constantValue := 0 }, { name := "carriers", type := (.array .int), accessFlags := 18, slot := 2, constantValue := 0 }]
  methods := #[k3m0]
  instanceTypes := #[(.object "com/example/lambdaloom/lambdaloom/Network"), (.object "com/example/lambdaloom/lambdaloom/Ring"), (.array .int)]
  staticTypes := #[]
  resolved := Array.replicate 202 none
  statics := none }

def pool4 : Array CpInfo := pool [(1, u "java/lang/Cloneable"), (0, .class_ 1), (0, u "java/lang/Object"), (0, .class_ 3)] 3

/-- java/lang/Cloneable -/
def k4 : Class := { plain "java/lang/Cloneable" (some 0) with
  accessFlags := 1537
  interfaces := #[]
  cf := some (fileOf pool4 2 #[] #[] 1537 4 #[] #[])
  fields := #[]
  methods := #[]
  instanceTypes := #[]
  staticTypes := #[]
  resolved := Array.replicate 8 none
  statics := none }

def pool5 : Array CpInfo := pool [(1, u "java/io/Serializable"), (0, .class_ 1), (0, u "java/lang/Object"), (0, .class_ 3)] 3

/-- java/io/Serializable -/
def k5 : Class := { plain "java/io/Serializable" (some 0) with
  accessFlags := 1537
  interfaces := #[]
  cf := some (fileOf pool5 2 #[] #[] 1537 4 #[] #[])
  fields := #[]
  methods := #[]
  instanceTypes := #[]
  staticTypes := #[]
  resolved := Array.replicate 8 none
  statics := none }

/-- the primitive byte -/
def k6 : Class := { plain "byte" none with kind := .primitive 'B', accessFlags := 0x411 }
/-- [B -/
def k7 : Class := { plain "[B" (some 0) with kind := .array 6 .byte, interfaces := #[4, 5], accessFlags := 1041 }

/-- the primitive int -/
def k8 : Class := { plain "int" none with kind := .primitive 'I', accessFlags := 0x411 }
/-- [I -/
def k9 : Class := { plain "[I" (some 0) with kind := .array 8 .int, interfaces := #[4, 5], accessFlags := 1041 }

def heap : Heap := #[]
def classes : Array Class := #[k0, k1, k2, k3, k4, k5, k6, k7, k8, k9]
def interned : List (Array UInt16 × Addr) := []
def slotsUsed : Nat := 0
def theMethod : MethodId := ⟨1, 1⟩
def args0 : Array Value := #[.int 5]
def aboutOver (below : List Frame) : State where
  vm := { classes := classes, interned := interned.toArray }
  heap := heap
  slotsUsed := slotsUsed
  threads := #[{ frames := .invoking theMethod args0 :: below }]
def below0 : List Frame := [.native { method := ⟨0, 0⟩, args := #[] }]
def about1 : State := aboutOver below0
def p0 : Program := .bare "" "" ""
def e0 : Env := launch0.env 0 0 0
theorem w_frames : about1.frames = Frame.invoking theMethod args0 :: below0 := rfl
set_option maxRecDepth 65536 in
theorem w_args : argsFit about1.vm theMethod args0 = true := by decide +kernel
set_option maxRecDepth 65536 in
theorem w_heap : heapFits about1 = true := by decide +kernel
set_option maxRecDepth 65536 in
theorem w_runnable : about1.curStatus? = some .runnable := by decide +kernel
set_option maxRecDepth 65536 in
theorem w_alone : about1.alone = true := by decide +kernel
set_option maxRecDepth 65536 in
theorem w_named : about1.methodNamed? x = some theMethod := by decide +kernel
set_option maxRecDepth 65536 in
theorem w_hears : about1.hears theMethod below0 = true := by decide +kernel
set_option maxRecDepth 65536 in
theorem w_ripe : about1.ripe theMethod args0 below0 = true := by decide +kernel
theorem w_running : about1.status = .running := rfl
set_option maxRecDepth 65536 in
theorem w_room : about1.hasRoom e0.platform room_1 = true :=
  launch0.hasRoom_least _ room_1 (by decide +kernel) (by decide +kernel) (by decide +kernel) (by decide +kernel) (by decide +kernel) (by decide +kernel)
theorem allAtoms_all (ts : List Jvm.Cond) (a : Array Jvm.Value) (st : Jvm.State) : (allAtoms ts).before a st = ts.all (fun c => c.before a st) := by
  induction ts with
  | nil => rfl
  | cons c t ih =>
    show (Jvm.Cond.and c (allAtoms t)).before a st = _
    rw [Jvm.Cond.before_and, ih, List.all_cons]
def words1 : List Jvm.Cond := Jvm.Cond.code x code maxLocals ret :: tables_1
/-- a 'code' word, met by the world's own term for the bytes: nothing is compared byte by byte -/
theorem code_word {y : MethodName} {bytes : ByteArray} {mx : Nat} {rt : Option FieldType} {a : Array Value} {s : State} {m : MethodId} {meth : Method} {c : Code} (h1 : s.methodNamed? y = some m) (h2 : s.vm.method? m = some meth) (h3 : meth.code = some c) (h4 : c.code = bytes)
    (h5 : (c.maxLocals == mx && c.exceptionTable.isEmpty && decide (c.maxStack ≤ mostOperands) && decide (meth.sig.returnType = rt) && !meth.locks && decide (parseMethodDescriptor y.desc = some meth.sig)) = true) : (Jvm.Cond.code y bytes mx rt).before a s = true := by
  simp only [Bool.and_eq_true, beq_iff_eq, Bool.not_eq_true', decide_eq_true_eq] at h5
  obtain ⟨⟨⟨⟨⟨g1, g2⟩, g3⟩, g4⟩, g5⟩, g6⟩ := h5
  simp [Cond.before, Cond.holds, Cond.value, h1, h2, h3, h4, g1, g2, g3, g4, g5, g6]
def isCode : Jvm.Cond → Bool
  | .code _ _ _ _ => true
  | _ => false
theorem all_split {L : List Jvm.Cond} {P : Jvm.Cond → Bool} (h1 : L.all (fun c => isCode c || P c) = true) (h2 : ∀ c ∈ L.filter isCode, P c = true) : L.all P = true := by
  refine List.all_eq_true.mpr fun c hc => ?_
  have h := List.all_eq_true.mp h1 c hc
  rcases Bool.eq_false_or_eq_true (isCode c) with hi | hi
  · exact h2 c (List.mem_filter.mpr ⟨hc, hi⟩)
  · simpa [hi] using h
set_option maxRecDepth 65536 in
theorem w_c0 : (Jvm.Cond.code x code maxLocals ret).before args0 about1 = true := code_word (m := ⟨1, 1⟩) (meth := k1m1) (c := k1c1) (by decide +kernel) rfl rfl rfl (by decide +kernel)
set_option maxRecDepth 65536 in
theorem w_c1 : (Jvm.Cond.code ({ cls := "java/lang/Math", name := "max", desc := "(II)I" } : Jvm.MethodName) jdk_29_method_65_code (2 : Nat) (Option.some Jvm.ClassFile.FieldType.int)).before args0 about1 = true := code_word (m := ⟨2, 1⟩) (meth := k2m1) (c := k2c1) (by decide +kernel) rfl rfl rfl (by decide +kernel)
set_option maxRecDepth 65536 in
theorem w_c2 : (Jvm.Cond.code ({ cls := "com/example/lambdaloom/lambdaloom/AllToAllRing", name := "wavelengths", desc := "(I)J" } : Jvm.MethodName) prog_1_method_4_code (3 : Nat) (Option.some Jvm.ClassFile.FieldType.long)).before args0 about1 = true := code_word (m := ⟨3, 0⟩) (meth := k3m0) (c := k3c0) (by decide +kernel) rfl rfl rfl (by decide +kernel)
def codes1 : List Jvm.Cond := [Jvm.Cond.code x code maxLocals ret, Jvm.Cond.code ({ cls := "java/lang/Math", name := "max", desc := "(II)I" } : Jvm.MethodName) jdk_29_method_65_code (2 : Nat) (Option.some Jvm.ClassFile.FieldType.int), Jvm.Cond.code ({ cls := "com/example/lambdaloom/lambdaloom/AllToAllRing", name := "wavelengths", desc := "(I)J" } : Jvm.MethodName) prog_1_method_4_code (3 : Nat) (Option.some Jvm.ClassFile.FieldType.long)]
set_option maxRecDepth 65536 in
theorem codes_eq : words1.filter isCode = codes1 := rfl
theorem w_codes : ∀ c ∈ words1.filter isCode, c.before args0 about1 = true := by
  rw [codes_eq]
  intro c hc
  simp only [codes1, List.mem_cons, List.not_mem_nil, or_false] at hc
  rcases hc with rfl | rfl | rfl
  · exact w_c0
  · exact w_c1
  · exact w_c2
set_option maxRecDepth 65536 in
theorem w_t1 : words1.all (fun c => isCode c || c.before args0 about1) = true := by decide +kernel
theorem w_tables : (allAtoms (Jvm.Cond.code x code maxLocals ret :: tables_1)).before args0 about1 = true := by
  rw [allAtoms_all]
  show words1.all (fun c => c.before args0 about1) = true
  refine all_split ?_ w_codes
  rw [w_t1]
set_option maxRecDepth 65536 in
theorem w_case : (Jvm.Cond.and given_1 narrow_1).before args0 about1 = true := by decide +kernel
theorem w_applies : (headSpec (Jvm.Cond.code x code maxLocals ret :: tables_1) room_1).applies x e0.platform about1 = true :=
  (Spec.applies_iff w_frames).mpr ⟨w_running, w_runnable, w_alone, w_named, w_hears, w_ripe, w_room, w_tables⟩
theorem atStart : AtStart classFile x code maxLocals ret World_1 tables_1 room_1 Calls_1 rest_1 Pre_1 launch0 p0 e0 about1 theMethod args0 below0 :=
  ⟨lists_1, trivial, launch0.admits_env _ _ _, launch0.least_env, fairChoices_fair.cas, fairChoices_fair.clock, w_frames, w_args, w_heap, w_applies, trivial, trivial, w_case⟩
end start1
theorem witness_1 : WitnessClaimed_1 := ⟨start1.p0, start1.e0, start1.about1, start1.theMethod, start1.args0, start1.below0, start1.atStart⟩
end Jvm.Pilot.@@N@@
