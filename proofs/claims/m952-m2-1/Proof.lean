import JvmDerived
import JvmDerived.Pilot.@@N@@Statement
import JvmDerived.Pilot.@@N@@Code
set_option linter.unusedVariables false
set_option linter.unusedSimpArgs false
@@BLOCK:NumsL.lean.txt@@
namespace Jvm.RoadKit
open Sem ClassFile Op Lib Jvm.Stand Jvm.Free Jvm.LawKit
section New
variable {p : Program} {l : Launch} {e : Env} {R : Room} {s : State} {m : MethodId} {args : Array Value} {below : List Frame} {meth : Method} {c : Code} {T : State} {locs : List Loc} {cells slots : Nat}
theorem retI (X : Stand p l e R s m args below meth c T locs cells slots) (hx : p.tables.exec = Jvm.exec) {pc : Nat} {Ls : Array Slot} {z : Int32} {rest : List Value} (hret : meth.sig.returnType = some .int) (hd : decode c.code pc = .ok (.ireturn, 1)) {fs : List Frame}
    (hl : ∀ (f : JFrame) (acts : List Action), f.method = m → f.locked = none → f.entered = [] → (doReturn e (T.setTop f) acts (some (.int z))).1 = T.setFrames fs) : Steps p.tables e below (T.setTop (mkF m pc Ls (.int z :: rest))) (T.setFrames fs) := by
  have hm' : T.vm.method? m = some meth := X.method'
  have hn : narrow .int (.int z) = .int z := rfl
  show Steps p.tables e below (T.setTop { method := m, pc := pc, locals := Ls, stack := _ :: rest, locked := none }) _
  jvm_step X.here [X.here.top, hx, hd, hm', hret, hn]
  first | (intro acts; rw [hl _ acts rfl rfl rfl]) | rw [hl _ _ rfl rfl rfl]
  exact Steps.refl _
end New
end Jvm.RoadKit
namespace Jvm.Pilot.@@N@@
open Jvm Jvm.ClassFile Sem Op Lib Jvm.Free Jvm.Stand Jvm.LawKit Jvm.RoadKit Bundle Jvm.Pilot.@@N@@.Jvm.D
/-! the rest of a run, from the state t on: it comes to an end of which P holds -/
def own_At (p : Program) (e : Env) (below : List Frame) (P : Outcome → State → Prop) (t : State) : Prop := ∃ s₂ o, Steps p.tables e below t s₂ ∧ s₂.status = .running ∧ Ended s₂ below o ∧ P o s₂
theorem own_body {p : Program} {e : Env} {below : List Frame} {P : Outcome → State → Prop} {t : State} (h : ∀ P' : Outcome → State → Prop, (∀ o u, P o u → P' o u) → own_At p e below P' t) : own_At p e below P t := h P fun _ _ q => q
theorem own_st {p : Program} {e : Env} {below : List Frame} {P : Outcome → State → Prop} {t t' : State} (h : ∀ target, Steps p.tables e below t' target → Steps p.tables e below t target) (k : own_At p e below P t') : own_At p e below P t := by
  obtain ⟨s₂, o, h1, h2⟩ := k
  exact ⟨s₂, o, h _ h1, h2⟩
theorem own_tr {p : Program} {e : Env} {below : List Frame} {P : Outcome → State → Prop} {t t' : State} (h : Steps p.tables e below t t') (k : own_At p e below P t') : own_At p e below P t := by
  obtain ⟨s₂, o, h1, h2⟩ := k
  exact ⟨s₂, o, h.trans h1, h2⟩
def own_pick (w m i : Int32) : Int32 := if (((m.toUInt32 >>> (i &&& 31).toUInt32).toInt32) &&& (1 : Int32)) = (0 : Int32) then nar .byte (0 : Int32) else nar .byte ((((w.toUInt32 >>> (((8 : Int32) * i) &&& 31).toUInt32).toInt32).toInt8.toInt32))
def own_b (b0 b1 b2 b3 : Int32) : Nat → Int32
  | 0 => b0
  | 1 => b1
  | 2 => b2
  | 3 => b3
  | _ => (0 : Int32)
def own_z (B : Nat → Int32) (i : Nat) : Nat → Int32
  | 0 => (1 : Int32)
  | k + 1 => if B i = (0 : Int32) then own_z B (i + 1) k else (0 : Int32)
def own_nz (i fr to w : Int32) : Int32 := if i < fr then (0 : Int32) else if i < to then (if w = (0 : Int32) then (0 : Int32) else (1 : Int32)) else (0 : Int32)

theorem own_m5 (x : Int32) : 0 ≤ ((x &&& (2147483647 : Int32)) % (5 : Int32)).toInt ∧ ((x &&& (2147483647 : Int32)) % (5 : Int32)).toInt ≤ 4 := by
  have e1 : (x &&& (2147483647 : Int32)).toInt = x.toInt % 2 ^ 31 := Jvm.Kit.i32_mask x 2147483647 (k := 31) (by decide) (by decide)
  have e2 : ((x &&& (2147483647 : Int32)) % (5 : Int32)).toInt = (x.toInt % 2147483648) % 5 := by
    rw [Int32.toInt_mod, e1, Int.tmod_eq_emod_of_nonneg (by omega)]; rfl
  omega
theorem own_i {i : Nat} (hi : i ≤ 4) : (Int32.ofNat i).toInt = i := by
  have h : i = 0 ∨ i = 1 ∨ i = 2 ∨ i = 3 ∨ i = 4 := by omega
  rcases h with rfl | rfl | rfl | rfl | rfl <;> rfl
theorem own_of {p : Int32} (h : 0 ≤ p.toInt ∧ p.toInt ≤ 4) : Int32.ofNat p.toInt.toNat = p := by
  rw [← Int32.toInt_inj, own_i (by omega)]; omega
theorem own_nlt {i : Nat} {q : Int32} (hi : i ≤ 4) (ht : 0 ≤ q.toInt ∧ q.toInt ≤ 4) (hk : 0 = q.toInt.toNat - i) : ¬ Int32.ofNat i < q := by
  rw [Int32.lt_iff_toInt_lt, own_i hi]; omega
theorem own_lt {i k : Nat} {q : Int32} (hi : i ≤ 4) (ht : 0 ≤ q.toInt ∧ q.toInt ≤ 4) (hk : k + 1 = q.toInt.toNat - i) : Int32.ofNat i < q := by
  rw [Int32.lt_iff_toInt_lt, own_i hi]; omega
theorem own_inb {i k : Nat} {q : Int32} (hi : i ≤ 4) (ht : 0 ≤ q.toInt ∧ q.toInt ≤ 4) (hk : k + 1 = q.toInt.toNat - i) : ¬ Int32.ofNat i < 0 ∧ Int32.ofNat i < (4 : Int32) := by
  have l0 : (0 : Int32).toInt = 0 := rfl
  have l4 : (4 : Int32).toInt = 4 := rfl
  rw [Int32.lt_iff_toInt_lt, Int32.lt_iff_toInt_lt, own_i hi]; omega
theorem own_get (b0 b1 b2 b3 : Int32) {i : Nat} (hi : i ≤ 4) : ([(.int b0), (.int b1), (.int b2), (.int b3)] : List Value).getD (Int32.ofNat i).toNatClampNeg (.int (0 : Int32)) = .int (own_b b0 b1 b2 b3 i) := by
  have h : i = 0 ∨ i = 1 ∨ i = 2 ∨ i = 3 ∨ i = 4 := by omega
  rcases h with rfl | rfl | rfl | rfl | rfl <;> rfl
theorem own_five {p : Int32} (h : 0 ≤ p.toInt ∧ p.toInt ≤ 4) : p = 0 ∨ p = 1 ∨ p = 2 ∨ p = 3 ∨ p = 4 := by
  simp only [← Int32.toInt_inj]
  have h0 : (0 : Int32).toInt = 0 := rfl
  have h1 : (1 : Int32).toInt = 1 := rfl
  have h2 : (2 : Int32).toInt = 2 := rfl
  have h3 : (3 : Int32).toInt = 3 := rfl
  have h4 : (4 : Int32).toInt = 4 := rfl
  rw [h0, h1, h2, h3, h4]
  omega
theorem own_fin {fr to v0 v1 v2 v3 got an : Int32} (hf : 0 ≤ fr.toInt ∧ fr.toInt ≤ 4) (ht : 0 ≤ to.toInt ∧ to.toInt ≤ 4) (g : (own_z (own_b v0 v1 v2 v3) fr.toInt.toNat (to.toInt.toNat - fr.toInt.toNat)) = got)
    (hz : an = (if (own_nz (0 : Int32) fr to v0) = (0 : Int32) then (if (own_nz (1 : Int32) fr to v1) = (0 : Int32) then (if (own_nz (2 : Int32) fr to v2) = (0 : Int32) then (if (own_nz (3 : Int32) fr to v3) = (0 : Int32) then (0 : Int32) else (1 : Int32)) else (1 : Int32)) else (1 : Int32)) else (1 : Int32))) : (an = 0 ∧ got = 1) ∨ (an = 1 ∧ got = 0) := by
  subst g hz
  have t0 : (0 : Int32).toInt.toNat = 0 := rfl
  have t1 : (1 : Int32).toInt.toNat = 1 := rfl
  have t2 : (2 : Int32).toInt.toNat = 2 := rfl
  have t3 : (3 : Int32).toInt.toNat = 3 := rfl
  have t4 : (4 : Int32).toInt.toNat = 4 := rfl
  have d10 : (1 : Int32) ≠ 0 := by decide
  rcases own_five hf with rfl | rfl | rfl | rfl | rfl <;> rcases own_five ht with rfl | rfl | rfl | rfl | rfl <;>
    simp only [t0, t1, t2, t3, t4, own_nz, own_z, own_b, Nat.sub_self, Nat.reduceSub, Nat.reduceAdd] <;>
    by_cases c0 : v0 = 0 <;> by_cases c1 : v1 = 0 <;> by_cases c2 : v2 = 0 <;> by_cases c3 : v3 = 0 <;> simp +decide [c0, c1, c2, c3]
theorem own_fin1 {fr to v0 v1 v2 v3 got an : Int32} (hf : 0 ≤ fr.toInt ∧ fr.toInt ≤ 4) (ht : 0 ≤ to.toInt ∧ to.toInt ≤ 4) (g : (own_z (own_b v0 v1 v2 v3) fr.toInt.toNat (to.toInt.toNat - fr.toInt.toNat)) = got)
    (hz : an = (if (own_nz (0 : Int32) fr to v0) = (0 : Int32) then (if (own_nz (1 : Int32) fr to v1) = (0 : Int32) then (if (own_nz (2 : Int32) fr to v2) = (0 : Int32) then (if (own_nz (3 : Int32) fr to v3) = (0 : Int32) then (0 : Int32) else (1 : Int32)) else (1 : Int32)) else (1 : Int32)) else (1 : Int32))) (c : an = (0 : Int32)) : got = (1 : Int32) := by
  rcases own_fin hf ht g hz with ⟨-, h⟩ | ⟨h, -⟩
  · exact h
  · rw [c] at h; exact absurd h (by decide)
theorem own_fin0 {fr to v0 v1 v2 v3 got an : Int32} (hf : 0 ≤ fr.toInt ∧ fr.toInt ≤ 4) (ht : 0 ≤ to.toInt ∧ to.toInt ≤ 4) (g : (own_z (own_b v0 v1 v2 v3) fr.toInt.toNat (to.toInt.toNat - fr.toInt.toNat)) = got)
    (hz : an = (if (own_nz (0 : Int32) fr to v0) = (0 : Int32) then (if (own_nz (1 : Int32) fr to v1) = (0 : Int32) then (if (own_nz (2 : Int32) fr to v2) = (0 : Int32) then (if (own_nz (3 : Int32) fr to v3) = (0 : Int32) then (0 : Int32) else (1 : Int32)) else (1 : Int32)) else (1 : Int32)) else (1 : Int32))) (c : ¬ an = (0 : Int32)) : got = (0 : Int32) := by
  rcases own_fin hf ht g hz with ⟨h, -⟩ | ⟨-, h⟩
  · exact absurd h c
  · exact h

theorem own_rm1_d0 : decode method_3_code 0 = .ok (.iload_n 1, 1) := by decide +kernel
theorem own_rm1_d1 : decode method_3_code 1 = .ok (.iload_n 2, 1) := by decide +kernel
theorem own_rm1_d2 : decode method_3_code 2 = .ok (.iushr, 1) := by decide +kernel
theorem own_rm1_d3 : decode method_3_code 3 = .ok (.iconst 1, 1) := by decide +kernel
theorem own_rm1_d4 : decode method_3_code 4 = .ok (.iand, 1) := by decide +kernel
theorem own_rm1_d5 : decode method_3_code 5 = .ok (.ifCond .eq 11, 3) := by decide +kernel
theorem own_rm1_d8 : decode method_3_code 8 = .ok (.iload_n 0, 1) := by decide +kernel
theorem own_rm1_d9 : decode method_3_code 9 = .ok (.bipush 8, 2) := by decide +kernel
theorem own_rm1_d11 : decode method_3_code 11 = .ok (.iload_n 2, 1) := by decide +kernel
theorem own_rm1_d12 : decode method_3_code 12 = .ok (.imul, 1) := by decide +kernel
theorem own_rm1_d13 : decode method_3_code 13 = .ok (.iushr, 1) := by decide +kernel
theorem own_rm1_d14 : decode method_3_code 14 = .ok (.i2b, 1) := by decide +kernel
theorem own_rm1_d15 : decode method_3_code 15 = .ok (.ireturn, 1) := by decide +kernel
theorem own_rm1_d16 : decode method_3_code 16 = .ok (.iconst 0, 1) := by decide +kernel
theorem own_rm1_d17 : decode method_3_code 17 = .ok (.ireturn, 1) := by decide +kernel
theorem own_rm1_pn : plainName "com/example/hashbook/hashbook/store/RowPagesZerosPinLaw" = true := by first | (simp [plainName, overriddenIn]; done) | decide +kernel
theorem own_rm1_ef (m : MethodId) (x0 : Int32) (x1 : Int32) (x2 : Int32) : entryFrame m #[(.int x0), (.int x1), (.int x2)] 3 = mkF m 0 #[.val (.int x0), .val (.int x1), .val (.int x2)] [] := by first | (simp [entryFrame, mkF, argsToLocals, Value.category]; done) | rfl
def own_rm1_Q (Z : State) (p1 : Int32) (p2 : Int32) (p3 : Int32) (h0 : Heap) (n0 : Nat) (v : Option Value) (h : Heap) (L : List Loc) : Prop := v = some (.int (own_pick p1 p2 p3)) ∧ Fr n0 L ∧ h = h0
set_option maxRecDepth 65536 in
set_option maxHeartbeats 40000000 in
theorem own_rm1 (l : Launch) (Z : State) (a0 : Array Value) (hw : ∀ d ∈ tables_1, d.before a0 Z = true) (ws : List Jvm.Cond) (p1 : Int32) (p2 : Int32) (p3 : Int32) (h0 : Heap) (n0 : Nat) (Z0 : n0 ≤ h0.size) :
    MetFree l (⟨"com/example/hashbook/hashbook/store/RowPagesZerosPinLaw", "pick", "(III)B"⟩ : MethodName) (head1 (Jvm.Cond.code (⟨"com/example/hashbook/hashbook/store/RowPagesZerosPinLaw", "pick", "(III)B"⟩ : MethodName) method_3_code 3 (some .byte) :: ws) ({ frames := 0, cells := 0, slots := 0, locals := 0 } : Room)) (fun a U => a = #[(.int p1), (.int p2), (.int p3)] ∧ Z.Warmed39 U.vm ∧ U.heap = h0) (fun _ _ _ _ _ => True) (fun _ U o U' => ∃ v L, o = .returned v ∧ own_rm1_Q Z p1 p2 p3 h0 n0 v U'.heap L ∧ FrameEnd U o U' L ({ frames := 0, cells := 0, slots := 0, locals := 0 } : Room).cells ({ frames := 0, cells := 0, slots := 0, locals := 0 } : Room).slots) := by
  refine MetFree.of_bodySF (plainFor_of_name own_rm1_pn) hisR ?_
  intro p e s m args below meth c s₁ Bd hml0 hPre hK
  obtain ⟨rfl, hZ, hh⟩ := hPre
  have hx := Bd.exec
  have hby := Bd.bytes
  have hml : c.maxLocals = 3 := hml0
  have hown : s.vm.findClass "com/example/hashbook/hashbook/store/RowPagesZerosPinLaw" = some m.cls := findClass_of_methodNamed Bd.named
  have hnm := (name_of_methodNamed Bd.named Bd.method).1
  have X0 : Stand p l e ({ frames := 0, cells := 0, slots := 0, locals := 0 } : Room) s m #[(.int p1), (.int p2), (.int p3)] below meth c s₁ [] 0 0 := Stand.of_body Bd
  have e0 : s₁.heap = h0 := by rw [← hh, Bd.state]; rfl
  have N0 := Fr.nil n0
  refine own_body fun P hP => ?_
  refine own_st (t' := s₁.setTop (mkF m 0 #[.val (.int p1), .val (.int p2), .val (.int p3)] [])) (fun _ k => castTop (own_rm1_ef m p1 p2 p3) k) ?_
  refine own_st (t' := s₁.setTop (mkF m 1 #[.val (.int p1), .val (.int p2), .val (.int p3)] [(.int p2)])) (fun _ k => XS.iloadN X0.here hx rfl (hb hby own_rm1_d0) rfl k) ?_
  refine own_st (t' := s₁.setTop (mkF m 2 #[.val (.int p1), .val (.int p2), .val (.int p3)] [(.int p3), (.int p2)])) (fun _ k => XS.iloadN X0.here hx rfl (hb hby own_rm1_d1) rfl k) ?_
  refine own_st (t' := s₁.setTop (mkF m 3 #[.val (.int p1), .val (.int p2), .val (.int p3)] [(.int ((p2.toUInt32 >>> (p3 &&& 31).toUInt32).toInt32))])) (fun _ k => XS.iushr X0.here hx rfl (hb hby own_rm1_d2) rfl k) ?_
  refine own_st (t' := s₁.setTop (mkF m 4 #[.val (.int p1), .val (.int p2), .val (.int p3)] [(.int (1 : Int32)), (.int ((p2.toUInt32 >>> (p3 &&& 31).toUInt32).toInt32))])) (fun _ k => XS.iconst X0.here hx rfl (hb hby own_rm1_d3) k) ?_
  refine own_st (t' := s₁.setTop (mkF m 5 #[.val (.int p1), .val (.int p2), .val (.int p3)] [(.int (((p2.toUInt32 >>> (p3 &&& 31).toUInt32).toInt32) &&& (1 : Int32)))])) (fun _ k => XS.iand X0.here hx rfl (hb hby own_rm1_d4) rfl k) ?_
  by_cases c5_1 : (((p2.toUInt32 >>> (p3 &&& 31).toUInt32).toInt32) &&& (1 : Int32)) = (0 : Int32)
  · refine own_st (t' := s₁.setTop (mkF m 16 #[.val (.int p1), .val (.int p2), .val (.int p3)] [])) (fun _ k => XS.ifYes X0.here hx rfl (pc0 := 5) (pc' := 16) rfl (hb hby own_rm1_d5) rfl ((if0 _ _).trans (teq c5_1).1) (by decide) (by decide) k) ?_
    refine own_st (t' := s₁.setTop (mkF m 17 #[.val (.int p1), .val (.int p2), .val (.int p3)] [(.int (0 : Int32))])) (fun _ k => XS.iconst X0.here hx rfl (hb hby own_rm1_d16) k) ?_
    have hv2 : (nar .byte (0 : Int32)) = own_pick p1 p2 p3 := by rw [own_pick, if_pos c5_1]
    obtain ⟨fs, hr, hrun, hended, hW, hsame⟩ := X0.leave (v := some (.int (nar .byte (0 : Int32)))) (fun h => by rw [Bd.returns] at h; cases h)
    exact ⟨_, _, retN X0 hx (t := .byte) Bd.returns (by simp) (hb hby own_rm1_d17) hr, hrun, hended, hP _ _ ⟨_, _, rfl, ⟨(congrArg (fun z => some (Value.int z)) hv2), N0, e0⟩, ⟨_, rfl⟩, hW, hsame.mono (by decide) (by decide)⟩⟩
  · refine own_st (t' := s₁.setTop (mkF m 8 #[.val (.int p1), .val (.int p2), .val (.int p3)] [])) (fun _ k => XS.ifNo X0.here hx rfl (hb hby own_rm1_d5) rfl ((if0 _ _).trans (feq c5_1).1) k) ?_
    refine own_st (t' := s₁.setTop (mkF m 9 #[.val (.int p1), .val (.int p2), .val (.int p3)] [(.int p1)])) (fun _ k => XS.iloadN X0.here hx rfl (hb hby own_rm1_d8) rfl k) ?_
    refine own_st (t' := s₁.setTop (mkF m 11 #[.val (.int p1), .val (.int p2), .val (.int p3)] [(.int (8 : Int32)), (.int p1)])) (fun _ k => XS.bipush X0.here hx rfl (hb hby own_rm1_d9) k) ?_
    refine own_st (t' := s₁.setTop (mkF m 12 #[.val (.int p1), .val (.int p2), .val (.int p3)] [(.int p3), (.int (8 : Int32)), (.int p1)])) (fun _ k => XS.iloadN X0.here hx rfl (hb hby own_rm1_d11) rfl k) ?_
    refine own_st (t' := s₁.setTop (mkF m 13 #[.val (.int p1), .val (.int p2), .val (.int p3)] [(.int ((8 : Int32) * p3)), (.int p1)])) (fun _ k => XS.imul X0.here hx rfl (hb hby own_rm1_d12) rfl k) ?_
    refine own_st (t' := s₁.setTop (mkF m 14 #[.val (.int p1), .val (.int p2), .val (.int p3)] [(.int ((p1.toUInt32 >>> (((8 : Int32) * p3) &&& 31).toUInt32).toInt32))])) (fun _ k => XS.iushr X0.here hx rfl (hb hby own_rm1_d13) rfl k) ?_
    refine own_st (t' := s₁.setTop (mkF m 15 #[.val (.int p1), .val (.int p2), .val (.int p3)] [(.int (((p1.toUInt32 >>> (((8 : Int32) * p3) &&& 31).toUInt32).toInt32).toInt8.toInt32))])) (fun _ k => XS.i2b X0.here hx rfl (hb hby own_rm1_d14) rfl k) ?_
    have hv3 : (nar .byte (((p1.toUInt32 >>> (((8 : Int32) * p3) &&& 31).toUInt32).toInt32).toInt8.toInt32)) = own_pick p1 p2 p3 := by rw [own_pick, if_neg c5_1]
    obtain ⟨fs, hr, hrun, hended, hW, hsame⟩ := X0.leave (v := some (.int (nar .byte (((p1.toUInt32 >>> (((8 : Int32) * p3) &&& 31).toUInt32).toInt32).toInt8.toInt32)))) (fun h => by rw [Bd.returns] at h; cases h)
    exact ⟨_, _, retN X0 hx (t := .byte) Bd.returns (by simp) (hb hby own_rm1_d15) hr, hrun, hended, hP _ _ ⟨_, _, rfl, ⟨(congrArg (fun z => some (Value.int z)) hv3), N0, e0⟩, ⟨_, rfl⟩, hW, hsame.mono (by decide) (by decide)⟩⟩

theorem own_rm2_d0 : decode prog_153_method_40_code 0 = .ok (.iload_n 1, 1) := by decide +kernel
theorem own_rm2_d1 : decode prog_153_method_40_code 1 = .ok (.istore_n 3, 1) := by decide +kernel
theorem own_rm2_d2 : decode prog_153_method_40_code 2 = .ok (.iload_n 3, 1) := by decide +kernel
theorem own_rm2_d3 : decode prog_153_method_40_code 3 = .ok (.iload_n 2, 1) := by decide +kernel
theorem own_rm2_d4 : decode prog_153_method_40_code 4 = .ok (.if_icmp .ge 17, 3) := by decide +kernel
theorem own_rm2_d7 : decode prog_153_method_40_code 7 = .ok (.aload_n 0, 1) := by decide +kernel
theorem own_rm2_d8 : decode prog_153_method_40_code 8 = .ok (.iload_n 3, 1) := by decide +kernel
theorem own_rm2_d9 : decode prog_153_method_40_code 9 = .ok (.baload, 1) := by decide +kernel
theorem own_rm2_d10 : decode prog_153_method_40_code 10 = .ok (.ifCond .eq 5, 3) := by decide +kernel
theorem own_rm2_d13 : decode prog_153_method_40_code 13 = .ok (.iconst 0, 1) := by decide +kernel
theorem own_rm2_d14 : decode prog_153_method_40_code 14 = .ok (.ireturn, 1) := by decide +kernel
theorem own_rm2_d15 : decode prog_153_method_40_code 15 = .ok (.iinc 3 1, 3) := by decide +kernel
theorem own_rm2_d18 : decode prog_153_method_40_code 18 = .ok (.goto (-16), 3) := by decide +kernel
theorem own_rm2_d21 : decode prog_153_method_40_code 21 = .ok (.iconst 1, 1) := by decide +kernel
theorem own_rm2_d22 : decode prog_153_method_40_code 22 = .ok (.ireturn, 1) := by decide +kernel
theorem own_rm2_pn : plainName "com/example/hashbook/hashbook/store/RowPages" = true := by first | (simp [plainName, overriddenIn]; done) | decide +kernel
theorem own_rm2_ef (m : MethodId) (x0 : Addr) (x1 : Int32) (x2 : Int32) : entryFrame m #[(.ref x0), (.int x1), (.int x2)] 4 = mkF m 0 #[.val (.ref x0), .val (.int x1), .val (.int x2), .unset] [] := by first | (simp [entryFrame, mkF, argsToLocals, Value.category]; done) | rfl
def own_rm2_Q (Z : State) (a1 : Addr) (p1 : Int32) (p2 : Int32) (kc : ClassId) (b0 : Int32) (b1 : Int32) (b2 : Int32) (b3 : Int32) (h0 : Heap) (n0 : Nat) (v : Option Value) (h : Heap) (L : List Loc) : Prop := v = some (.int (own_z (own_b b0 b1 b2 b3) p1.toInt.toNat (p2.toInt.toNat - p1.toInt.toNat))) ∧ Fr n0 L ∧ h = h0
set_option maxRecDepth 65536 in
set_option maxHeartbeats 40000000 in
theorem own_rm2 (l : Launch) (Z : State) (a0 : Array Value) (hw : ∀ d ∈ tables_1, d.before a0 Z = true) (ws : List Jvm.Cond) (a1 : Addr) (p1 : Int32) (p2 : Int32) (kc : ClassId) (b0 : Int32) (b1 : Int32) (b2 : Int32) (b3 : Int32) (h0 : Heap) (n0 : Nat) (Z0 : n0 ≤ h0.size) (V : Arv Z h0 a1 kc .byte (4 : Int32) [(.int b0), (.int b1), (.int b2), (.int b3)] (.int (0 : Int32))) (hf : 0 ≤ p1.toInt ∧ p1.toInt ≤ 4) (ht : 0 ≤ p2.toInt ∧ p2.toInt ≤ 4) :
    MetFree l (⟨"com/example/hashbook/hashbook/store/RowPages", "zeros", "([BII)Z"⟩ : MethodName) (head1 (Jvm.Cond.code (⟨"com/example/hashbook/hashbook/store/RowPages", "zeros", "([BII)Z"⟩ : MethodName) prog_153_method_40_code 4 (some .boolean) :: ws) ({ frames := 0, cells := 0, slots := 0, locals := 0 } : Room)) (fun a U => a = #[(.ref a1), (.int p1), (.int p2)] ∧ Z.Warmed39 U.vm ∧ U.heap = h0) (fun _ _ _ _ _ => True) (fun _ U o U' => ∃ v L, o = .returned v ∧ own_rm2_Q Z a1 p1 p2 kc b0 b1 b2 b3 h0 n0 v U'.heap L ∧ FrameEnd U o U' L ({ frames := 0, cells := 0, slots := 0, locals := 0 } : Room).cells ({ frames := 0, cells := 0, slots := 0, locals := 0 } : Room).slots) := by
  refine MetFree.of_bodySF (plainFor_of_name own_rm2_pn) hisR ?_
  intro p e s m args below meth c s₁ Bd hml0 hPre hK
  obtain ⟨rfl, hZ, hh⟩ := hPre
  have hx := Bd.exec
  have hby := Bd.bytes
  have hml : c.maxLocals = 4 := hml0
  have hown : s.vm.findClass "com/example/hashbook/hashbook/store/RowPages" = some m.cls := findClass_of_methodNamed Bd.named
  have hnm := (name_of_methodNamed Bd.named Bd.method).1
  have X0 : Stand p l e ({ frames := 0, cells := 0, slots := 0, locals := 0 } : Room) s m #[(.ref a1), (.int p1), (.int p2)] below meth c s₁ [] 0 0 := Stand.of_body Bd
  have e0 : s₁.heap = h0 := by rw [← hh, Bd.state]; rfl
  have N0 := Fr.nil n0
  refine own_body fun P hP => ?_
  refine own_st (t' := s₁.setTop (mkF m 0 #[.val (.ref a1), .val (.int p1), .val (.int p2), .unset] [])) (fun _ k => castTop (own_rm2_ef m a1 p1 p2) k) ?_
  refine own_st (t' := s₁.setTop (mkF m 1 #[.val (.ref a1), .val (.int p1), .val (.int p2), .unset] [(.int p1)])) (fun _ k => XS.iloadN X0.here hx rfl (hb hby own_rm2_d0) rfl k) ?_
  refine own_st (t' := s₁.setTop (mkF m 2 #[.val (.ref a1), .val (.int p1), .val (.int p2), .val (.int p1)] [])) (fun _ k => XS.istoreN X0.here hx rfl (hb hby own_rm2_d1) rfl (l' := #[.val (.ref a1), .val (.int p1), .val (.int p2), .val (.int p1)]) rfl k) ?_
  have loop : ∀ k i : Nat, i ≤ 4 → k = p2.toInt.toNat - i → own_z (own_b b0 b1 b2 b3) p1.toInt.toNat (p2.toInt.toNat - p1.toInt.toNat) = own_z (own_b b0 b1 b2 b3) i k → own_At p e below P (s₁.setTop (mkF m 2 #[.val (.ref a1), .val (.int p1), .val (.int p2), .val (.int (Int32.ofNat i))] [])) := by
    intro k
    induction k with
    | zero =>
      intro i hi hk hz
      refine own_st (t' := s₁.setTop (mkF m 3 #[.val (.ref a1), .val (.int p1), .val (.int p2), .val (.int (Int32.ofNat i))] [(.int (Int32.ofNat i))])) (fun _ k => XS.iloadN X0.here hx rfl (hb hby own_rm2_d2) rfl k) ?_
      refine own_st (t' := s₁.setTop (mkF m 4 #[.val (.ref a1), .val (.int p1), .val (.int p2), .val (.int (Int32.ofNat i))] [(.int p2), (.int (Int32.ofNat i))])) (fun _ k => XS.iloadN X0.here hx rfl (hb hby own_rm2_d3) rfl k) ?_
      refine own_st (t' := s₁.setTop (mkF m 21 #[.val (.ref a1), .val (.int p1), .val (.int p2), .val (.int (Int32.ofNat i))] [])) (fun _ k => XS.icmpYes X0.here hx rfl (pc0 := 4) (pc' := 21) rfl (hb hby own_rm2_d4) rfl (flt (own_nlt hi ht hk)).2.1 (by decide) (by decide) k) ?_
      refine own_st (t' := s₁.setTop (mkF m 22 #[.val (.ref a1), .val (.int p1), .val (.int p2), .val (.int (Int32.ofNat i))] [(.int (1 : Int32))])) (fun _ k => XS.iconst X0.here hx rfl (hb hby own_rm2_d21) k) ?_
      have hv1 : (1 : Int32) = own_z (own_b b0 b1 b2 b3) p1.toInt.toNat (p2.toInt.toNat - p1.toInt.toNat) := by rw [hz]; rfl
      obtain ⟨fs, hr, hrun, hended, hW, hsame⟩ := X0.leave (v := some (.int (1 : Int32))) (fun h => by rw [Bd.returns] at h; cases h)
      exact ⟨_, _, retN X0 hx (t := .boolean) Bd.returns (by simp) (hb hby own_rm2_d22) hr, hrun, hended, hP _ _ ⟨_, _, rfl, ⟨(congrArg (fun z => some (Value.int z)) hv1), N0, e0⟩, ⟨_, rfl⟩, hW, hsame.mono (by decide) (by decide)⟩⟩
    | succ k ih =>
      intro i hi hk hz
      refine own_st (t' := s₁.setTop (mkF m 3 #[.val (.ref a1), .val (.int p1), .val (.int p2), .val (.int (Int32.ofNat i))] [(.int (Int32.ofNat i))])) (fun _ k => XS.iloadN X0.here hx rfl (hb hby own_rm2_d2) rfl k) ?_
      refine own_st (t' := s₁.setTop (mkF m 4 #[.val (.ref a1), .val (.int p1), .val (.int p2), .val (.int (Int32.ofNat i))] [(.int p2), (.int (Int32.ofNat i))])) (fun _ k => XS.iloadN X0.here hx rfl (hb hby own_rm2_d3) rfl k) ?_
      refine own_st (t' := s₁.setTop (mkF m 7 #[.val (.ref a1), .val (.int p1), .val (.int p2), .val (.int (Int32.ofNat i))] [])) (fun _ k => XS.icmpNo X0.here hx rfl (hb hby own_rm2_d4) rfl (tlt (own_lt hi ht hk)).2.1 k) ?_
      refine own_st (t' := s₁.setTop (mkF m 8 #[.val (.ref a1), .val (.int p1), .val (.int p2), .val (.int (Int32.ofNat i))] [(.ref a1)])) (fun _ k => XS.aloadN X0.here hx rfl (hb hby own_rm2_d7) rfl rfl k) ?_
      refine own_st (t' := s₁.setTop (mkF m 9 #[.val (.ref a1), .val (.int p1), .val (.int p2), .val (.int (Int32.ofNat i))] [(.int (Int32.ofNat i)), (.ref a1)])) (fun _ k => XS.iloadN X0.here hx rfl (hb hby own_rm2_d8) rfl k) ?_
      obtain ⟨cl_2, Ar_2, qa_2, Sa_2, Ma_2, Ha_2, Ga_2⟩ := id V
      have hin_2 : ¬ ((Int32.ofNat i) < 0 ∨ cl_2.slots.size ≤ ((Int32.ofNat i)).toNatClampNeg) := inb_of Sa_2 (own_inb hi ht hk)
      refine own_st (t' := s₁.setTop (mkF m 10 #[.val (.ref a1), .val (.int p1), .val (.int p2), .val (.int (Int32.ofNat i))] [(.int (own_b b0 b1 b2 b3 i))])) (fun _ k => X0.baloadBytes hx (j := (Int32.ofNat i)) (v := (.int (own_b b0 b1 b2 b3 i))) (by rw [e0]; exact Ar_2.1) (State.isArrayOf_alike hZ.alike Ar_2.2.1) Ar_2.2.2 hin_2 (Has.at Ha_2 hin_2 (own_get b0 b1 b2 b3 hi)) (g := (mkF m 9 #[.val (.ref a1), .val (.int p1), .val (.int p2), .val (.int (Int32.ofNat i))] [(.int (Int32.ofNat i)), (.ref a1)])) rfl rfl (hb hby own_rm2_d9) _ k) ?_
      by_cases c10_3 : (own_b b0 b1 b2 b3 i) = (0 : Int32)
      · refine own_st (t' := s₁.setTop (mkF m 15 #[.val (.ref a1), .val (.int p1), .val (.int p2), .val (.int (Int32.ofNat i))] [])) (fun _ k => XS.ifYes X0.here hx rfl (pc0 := 10) (pc' := 15) rfl (hb hby own_rm2_d10) rfl ((if0 _ _).trans (teq c10_3).1) (by decide) (by decide) k) ?_
        refine own_st (t' := s₁.setTop (mkF m 18 #[.val (.ref a1), .val (.int p1), .val (.int p2), .val (.int ((Int32.ofNat i) + (1 : Int32)))] [])) (fun _ k => XS.iinc X0.here hx rfl (hb hby own_rm2_d15) rfl (l' := #[.val (.ref a1), .val (.int p1), .val (.int p2), .val (.int ((Int32.ofNat i) + (1 : Int32)))]) rfl k) ?_
        refine own_st (t' := s₁.setTop (mkF m 2 #[.val (.ref a1), .val (.int p1), .val (.int p2), .val (.int ((Int32.ofNat i) + (1 : Int32)))] [])) (fun _ k => XS.goto X0.here hx rfl (pc0 := 18) (pc' := 2) rfl (hb hby own_rm2_d18) (by decide) (by decide) k) ?_
        rw [ofNat_add_one32]
        exact ih (i + 1) (by omega) (by omega) (hz.trans (by rw [own_z, if_pos c10_3]))
      · refine own_st (t' := s₁.setTop (mkF m 13 #[.val (.ref a1), .val (.int p1), .val (.int p2), .val (.int (Int32.ofNat i))] [])) (fun _ k => XS.ifNo X0.here hx rfl (hb hby own_rm2_d10) rfl ((if0 _ _).trans (feq c10_3).1) k) ?_
        refine own_st (t' := s₁.setTop (mkF m 14 #[.val (.ref a1), .val (.int p1), .val (.int p2), .val (.int (Int32.ofNat i))] [(.int (0 : Int32))])) (fun _ k => XS.iconst X0.here hx rfl (hb hby own_rm2_d13) k) ?_
        have hv4 : (0 : Int32) = own_z (own_b b0 b1 b2 b3) p1.toInt.toNat (p2.toInt.toNat - p1.toInt.toNat) := by rw [hz, own_z, if_neg c10_3]
        obtain ⟨fs, hr, hrun, hended, hW, hsame⟩ := X0.leave (v := some (.int (0 : Int32))) (fun h => by rw [Bd.returns] at h; cases h)
        exact ⟨_, _, retN X0 hx (t := .boolean) Bd.returns (by simp) (hb hby own_rm2_d14) hr, hrun, hended, hP _ _ ⟨_, _, rfl, ⟨(congrArg (fun z => some (Value.int z)) hv4), N0, e0⟩, ⟨_, rfl⟩, hW, hsame.mono (by decide) (by decide)⟩⟩
  have L := loop _ p1.toInt.toNat (by omega) rfl rfl
  rw [own_of hf] at L
  exact L

theorem own_rm3_d0 : decode method_4_code 0 = .ok (.iload_n 2, 1) := by decide +kernel
theorem own_rm3_d1 : decode method_4_code 1 = .ok (.iload_n 1, 1) := by decide +kernel
theorem own_rm3_d2 : decode method_4_code 2 = .ok (.if_icmp .gt 18, 3) := by decide +kernel
theorem own_rm3_d5 : decode method_4_code 5 = .ok (.iload_n 1, 1) := by decide +kernel
theorem own_rm3_d6 : decode method_4_code 6 = .ok (.iload_n 3, 1) := by decide +kernel
theorem own_rm3_d7 : decode method_4_code 7 = .ok (.if_icmp .ge 13, 3) := by decide +kernel
theorem own_rm3_d10 : decode method_4_code 10 = .ok (.aload_n 0, 1) := by decide +kernel
theorem own_rm3_d11 : decode method_4_code 11 = .ok (.iload_n 1, 1) := by decide +kernel
theorem own_rm3_d12 : decode method_4_code 12 = .ok (.baload, 1) := by decide +kernel
theorem own_rm3_d13 : decode method_4_code 13 = .ok (.ifCond .eq 7, 3) := by decide +kernel
theorem own_rm3_d16 : decode method_4_code 16 = .ok (.iconst 1, 1) := by decide +kernel
theorem own_rm3_d17 : decode method_4_code 17 = .ok (.goto 4, 3) := by decide +kernel
theorem own_rm3_d20 : decode method_4_code 20 = .ok (.iconst 0, 1) := by decide +kernel
theorem own_rm3_d21 : decode method_4_code 21 = .ok (.ireturn, 1) := by decide +kernel
theorem own_rm3_pn : plainName "com/example/hashbook/hashbook/store/RowPagesZerosPinLaw" = true := by first | (simp [plainName, overriddenIn]; done) | decide +kernel
theorem own_rm3_ef (m : MethodId) (x0 : Addr) (x1 : Int32) (x2 : Int32) (x3 : Int32) : entryFrame m #[(.ref x0), (.int x1), (.int x2), (.int x3)] 4 = mkF m 0 #[.val (.ref x0), .val (.int x1), .val (.int x2), .val (.int x3)] [] := by first | (simp [entryFrame, mkF, argsToLocals, Value.category]; done) | rfl
def own_rm3_Q (Z : State) (a1 : Addr) (p1 : Int32) (p2 : Int32) (p3 : Int32) (kc : ClassId) (b0 : Int32) (b1 : Int32) (b2 : Int32) (b3 : Int32) (w5 : Int32) (h0 : Heap) (n0 : Nat) (v : Option Value) (h : Heap) (L : List Loc) : Prop := v = some (.int (own_nz p1 p2 p3 w5)) ∧ Fr n0 L ∧ h = h0
set_option maxRecDepth 65536 in
set_option maxHeartbeats 40000000 in
theorem own_rm3 (l : Launch) (Z : State) (a0 : Array Value) (hw : ∀ d ∈ tables_1, d.before a0 Z = true) (ws : List Jvm.Cond) (a1 : Addr) (p1 : Int32) (p2 : Int32) (p3 : Int32) (kc : ClassId) (b0 : Int32) (b1 : Int32) (b2 : Int32) (b3 : Int32) (w5 : Int32) (h0 : Heap) (n0 : Nat) (Z0 : n0 ≤ h0.size) (V : Arv Z h0 a1 kc .byte (4 : Int32) [(.int b0), (.int b1), (.int b2), (.int b3)] (.int (0 : Int32))) (hi : ¬ p1 < 0 ∧ p1 < (4 : Int32)) (hg : ([(.int b0), (.int b1), (.int b2), (.int b3)] : List Value).getD p1.toNatClampNeg (.int (0 : Int32)) = .int w5) :
    MetFree l (⟨"com/example/hashbook/hashbook/store/RowPagesZerosPinLaw", "nz", "([BIII)Z"⟩ : MethodName) (head1 (Jvm.Cond.code (⟨"com/example/hashbook/hashbook/store/RowPagesZerosPinLaw", "nz", "([BIII)Z"⟩ : MethodName) method_4_code 4 (some .boolean) :: ws) ({ frames := 0, cells := 0, slots := 0, locals := 0 } : Room)) (fun a U => a = #[(.ref a1), (.int p1), (.int p2), (.int p3)] ∧ Z.Warmed39 U.vm ∧ U.heap = h0) (fun _ _ _ _ _ => True) (fun _ U o U' => ∃ v L, o = .returned v ∧ own_rm3_Q Z a1 p1 p2 p3 kc b0 b1 b2 b3 w5 h0 n0 v U'.heap L ∧ FrameEnd U o U' L ({ frames := 0, cells := 0, slots := 0, locals := 0 } : Room).cells ({ frames := 0, cells := 0, slots := 0, locals := 0 } : Room).slots) := by
  refine MetFree.of_bodySF (plainFor_of_name own_rm3_pn) hisR ?_
  intro p e s m args below meth c s₁ Bd hml0 hPre hK
  obtain ⟨rfl, hZ, hh⟩ := hPre
  have hx := Bd.exec
  have hby := Bd.bytes
  have hml : c.maxLocals = 4 := hml0
  have hown : s.vm.findClass "com/example/hashbook/hashbook/store/RowPagesZerosPinLaw" = some m.cls := findClass_of_methodNamed Bd.named
  have hnm := (name_of_methodNamed Bd.named Bd.method).1
  have X0 : Stand p l e ({ frames := 0, cells := 0, slots := 0, locals := 0 } : Room) s m #[(.ref a1), (.int p1), (.int p2), (.int p3)] below meth c s₁ [] 0 0 := Stand.of_body Bd
  have e0 : s₁.heap = h0 := by rw [← hh, Bd.state]; rfl
  have N0 := Fr.nil n0
  refine own_body fun P hP => ?_
  refine own_st (t' := s₁.setTop (mkF m 0 #[.val (.ref a1), .val (.int p1), .val (.int p2), .val (.int p3)] [])) (fun _ k => castTop (own_rm3_ef m a1 p1 p2 p3) k) ?_
  refine own_st (t' := s₁.setTop (mkF m 1 #[.val (.ref a1), .val (.int p1), .val (.int p2), .val (.int p3)] [(.int p2)])) (fun _ k => XS.iloadN X0.here hx rfl (hb hby own_rm3_d0) rfl k) ?_
  refine own_st (t' := s₁.setTop (mkF m 2 #[.val (.ref a1), .val (.int p1), .val (.int p2), .val (.int p3)] [(.int p1), (.int p2)])) (fun _ k => XS.iloadN X0.here hx rfl (hb hby own_rm3_d1) rfl k) ?_
  by_cases c2_1 : p1 < p2
  · refine own_st (t' := s₁.setTop (mkF m 20 #[.val (.ref a1), .val (.int p1), .val (.int p2), .val (.int p3)] [])) (fun _ k => XS.icmpYes X0.here hx rfl (pc0 := 2) (pc' := 20) rfl (hb hby own_rm3_d2) rfl (tlt c2_1).2.2.1 (by decide) (by decide) k) ?_
    refine own_st (t' := s₁.setTop (mkF m 21 #[.val (.ref a1), .val (.int p1), .val (.int p2), .val (.int p3)] [(.int (0 : Int32))])) (fun _ k => XS.iconst X0.here hx rfl (hb hby own_rm3_d20) k) ?_
    have hv2 : (0 : Int32) = own_nz p1 p2 p3 w5 := by rw [own_nz, if_pos c2_1]
    obtain ⟨fs, hr, hrun, hended, hW, hsame⟩ := X0.leave (v := some (.int (0 : Int32))) (fun h => by rw [Bd.returns] at h; cases h)
    exact ⟨_, _, retN X0 hx (t := .boolean) Bd.returns (by simp) (hb hby own_rm3_d21) hr, hrun, hended, hP _ _ ⟨_, _, rfl, ⟨(congrArg (fun z => some (Value.int z)) hv2), N0, e0⟩, ⟨_, rfl⟩, hW, hsame.mono (by decide) (by decide)⟩⟩
  · refine own_st (t' := s₁.setTop (mkF m 5 #[.val (.ref a1), .val (.int p1), .val (.int p2), .val (.int p3)] [])) (fun _ k => XS.icmpNo X0.here hx rfl (hb hby own_rm3_d2) rfl (flt c2_1).2.2.1 k) ?_
    refine own_st (t' := s₁.setTop (mkF m 6 #[.val (.ref a1), .val (.int p1), .val (.int p2), .val (.int p3)] [(.int p1)])) (fun _ k => XS.iloadN X0.here hx rfl (hb hby own_rm3_d5) rfl k) ?_
    refine own_st (t' := s₁.setTop (mkF m 7 #[.val (.ref a1), .val (.int p1), .val (.int p2), .val (.int p3)] [(.int p3), (.int p1)])) (fun _ k => XS.iloadN X0.here hx rfl (hb hby own_rm3_d6) rfl k) ?_
    by_cases c7_3 : p1 < p3
    · refine own_st (t' := s₁.setTop (mkF m 10 #[.val (.ref a1), .val (.int p1), .val (.int p2), .val (.int p3)] [])) (fun _ k => XS.icmpNo X0.here hx rfl (hb hby own_rm3_d7) rfl (tlt c7_3).2.1 k) ?_
      refine own_st (t' := s₁.setTop (mkF m 11 #[.val (.ref a1), .val (.int p1), .val (.int p2), .val (.int p3)] [(.ref a1)])) (fun _ k => XS.aloadN X0.here hx rfl (hb hby own_rm3_d10) rfl rfl k) ?_
      refine own_st (t' := s₁.setTop (mkF m 12 #[.val (.ref a1), .val (.int p1), .val (.int p2), .val (.int p3)] [(.int p1), (.ref a1)])) (fun _ k => XS.iloadN X0.here hx rfl (hb hby own_rm3_d11) rfl k) ?_
      obtain ⟨cl_4, Ar_4, qa_4, Sa_4, Ma_4, Ha_4, Ga_4⟩ := id V
      have hin_4 : ¬ (p1 < 0 ∨ cl_4.slots.size ≤ (p1).toNatClampNeg) := inb_of Sa_4 hi
      refine own_st (t' := s₁.setTop (mkF m 13 #[.val (.ref a1), .val (.int p1), .val (.int p2), .val (.int p3)] [(.int w5)])) (fun _ k => X0.baloadBytes hx (j := p1) (v := (.int w5)) (by rw [e0]; exact Ar_4.1) (State.isArrayOf_alike hZ.alike Ar_4.2.1) Ar_4.2.2 hin_4 (Has.at Ha_4 hin_4 hg) (g := (mkF m 12 #[.val (.ref a1), .val (.int p1), .val (.int p2), .val (.int p3)] [(.int p1), (.ref a1)])) rfl rfl (hb hby own_rm3_d12) _ k) ?_
      by_cases c13_5 : w5 = (0 : Int32)
      · refine own_st (t' := s₁.setTop (mkF m 20 #[.val (.ref a1), .val (.int p1), .val (.int p2), .val (.int p3)] [])) (fun _ k => XS.ifYes X0.here hx rfl (pc0 := 13) (pc' := 20) rfl (hb hby own_rm3_d13) rfl ((if0 _ _).trans (teq c13_5).1) (by decide) (by decide) k) ?_
        refine own_st (t' := s₁.setTop (mkF m 21 #[.val (.ref a1), .val (.int p1), .val (.int p2), .val (.int p3)] [(.int (0 : Int32))])) (fun _ k => XS.iconst X0.here hx rfl (hb hby own_rm3_d20) k) ?_
        have hv6 : (0 : Int32) = own_nz p1 p2 p3 w5 := by rw [own_nz, if_neg c2_1, if_pos c7_3, if_pos c13_5]
        obtain ⟨fs, hr, hrun, hended, hW, hsame⟩ := X0.leave (v := some (.int (0 : Int32))) (fun h => by rw [Bd.returns] at h; cases h)
        exact ⟨_, _, retN X0 hx (t := .boolean) Bd.returns (by simp) (hb hby own_rm3_d21) hr, hrun, hended, hP _ _ ⟨_, _, rfl, ⟨(congrArg (fun z => some (Value.int z)) hv6), N0, e0⟩, ⟨_, rfl⟩, hW, hsame.mono (by decide) (by decide)⟩⟩
      · refine own_st (t' := s₁.setTop (mkF m 16 #[.val (.ref a1), .val (.int p1), .val (.int p2), .val (.int p3)] [])) (fun _ k => XS.ifNo X0.here hx rfl (hb hby own_rm3_d13) rfl ((if0 _ _).trans (feq c13_5).1) k) ?_
        refine own_st (t' := s₁.setTop (mkF m 17 #[.val (.ref a1), .val (.int p1), .val (.int p2), .val (.int p3)] [(.int (1 : Int32))])) (fun _ k => XS.iconst X0.here hx rfl (hb hby own_rm3_d16) k) ?_
        refine own_st (t' := s₁.setTop (mkF m 21 #[.val (.ref a1), .val (.int p1), .val (.int p2), .val (.int p3)] [(.int (1 : Int32))])) (fun _ k => XS.goto X0.here hx rfl (pc0 := 17) (pc' := 21) rfl (hb hby own_rm3_d17) (by decide) (by decide) k) ?_
        have hv7 : (1 : Int32) = own_nz p1 p2 p3 w5 := by rw [own_nz, if_neg c2_1, if_pos c7_3, if_neg c13_5]
        obtain ⟨fs, hr, hrun, hended, hW, hsame⟩ := X0.leave (v := some (.int (1 : Int32))) (fun h => by rw [Bd.returns] at h; cases h)
        exact ⟨_, _, retN X0 hx (t := .boolean) Bd.returns (by simp) (hb hby own_rm3_d21) hr, hrun, hended, hP _ _ ⟨_, _, rfl, ⟨(congrArg (fun z => some (Value.int z)) hv7), N0, e0⟩, ⟨_, rfl⟩, hW, hsame.mono (by decide) (by decide)⟩⟩
    · refine own_st (t' := s₁.setTop (mkF m 20 #[.val (.ref a1), .val (.int p1), .val (.int p2), .val (.int p3)] [])) (fun _ k => XS.icmpYes X0.here hx rfl (pc0 := 7) (pc' := 20) rfl (hb hby own_rm3_d7) rfl (flt c7_3).2.1 (by decide) (by decide) k) ?_
      refine own_st (t' := s₁.setTop (mkF m 21 #[.val (.ref a1), .val (.int p1), .val (.int p2), .val (.int p3)] [(.int (0 : Int32))])) (fun _ k => XS.iconst X0.here hx rfl (hb hby own_rm3_d20) k) ?_
      have hv8 : (0 : Int32) = own_nz p1 p2 p3 w5 := by rw [own_nz, if_neg c2_1, if_neg c7_3]
      obtain ⟨fs, hr, hrun, hended, hW, hsame⟩ := X0.leave (v := some (.int (0 : Int32))) (fun h => by rw [Bd.returns] at h; cases h)
      exact ⟨_, _, retN X0 hx (t := .boolean) Bd.returns (by simp) (hb hby own_rm3_d21) hr, hrun, hended, hP _ _ ⟨_, _, rfl, ⟨(congrArg (fun z => some (Value.int z)) hv8), N0, e0⟩, ⟨_, rfl⟩, hW, hsame.mono (by decide) (by decide)⟩⟩

theorem own_rm0_pn : plainName "com/example/hashbook/hashbook/store/RowPagesZerosPinLaw" = true := by first | (simp [plainName, overriddenIn]; done) | decide +kernel
theorem own_rm0_pd0 : parseMethodDescriptor "(III)B" = some ⟨[.int, .int, .int], some .byte⟩ := by decide +kernel
theorem own_rm0_pd1 : parseMethodDescriptor "([BII)Z" = some ⟨[(.array .byte), .int, .int], some .boolean⟩ := by decide +kernel
theorem own_rm0_pd2 : parseMethodDescriptor "([BIII)Z" = some ⟨[(.array .byte), .int, .int, .int], some .boolean⟩ := by decide +kernel
theorem own_rm0_ef (m : MethodId) (x0 : Int32) (x1 : Int32) (x2 : Int32) (x3 : Int32) : entryFrame m #[(.int x0), (.int x1), (.int x2), (.int x3)] maxLocals = mkF m 0 #[.val (.int x0), .val (.int x1), .val (.int x2), .val (.int x3), .unset, .unset, .unset, .unset, .unset, .unset, .unset, .unset, .unset, .unset, .unset] [] := by first | (simp [entryFrame, mkF, argsToLocals, Value.category, maxLocals]; done) | rfl
def own_rm0_Q (Z : State) (p1 : Int32) (p2 : Int32) (p3 : Int32) (p4 : Int32) (h0 : Heap) (n0 : Nat) (v : Option Value) (h : Heap) (L : List Loc) : Prop := v = some (.int ((1 : Int32))) ∧ Fr n0 L
set_option maxRecDepth 65536 in
set_option maxHeartbeats 40000000 in
theorem own_rm0 (l : Launch) (Z : State) (a0 : Array Value) (hw : ∀ d ∈ tables_1, d.before a0 Z = true) (ws : List Jvm.Cond) (p1 : Int32) (p2 : Int32) (p3 : Int32) (p4 : Int32) (h0 : Heap) (n0 : Nat) (Z0 : n0 ≤ h0.size) :
    MetFree l x (head1 (Jvm.Cond.code x code maxLocals ret :: ws) room_1) (fun a U => a = #[(.int p1), (.int p2), (.int p3), (.int p4)] ∧ Z.Warmed39 U.vm ∧ U.heap = h0) (fun _ _ _ _ _ => True) (fun _ U o U' => ∃ v L, o = .returned v ∧ own_rm0_Q Z p1 p2 p3 p4 h0 n0 v U'.heap L ∧ FrameEnd U o U' L room_1.cells room_1.slots) := by
  refine MetFree.of_bodySF (plainFor_of_name own_rm0_pn) hisR ?_
  intro p e s m args below meth c s₁ Bd hml0 hPre hK
  obtain ⟨rfl, hZ, hh⟩ := hPre
  have hx := Bd.exec
  have hby := Bd.bytes
  have hml : c.maxLocals = 15 := hml0
  have hown : s.vm.findClass "com/example/hashbook/hashbook/store/RowPagesZerosPinLaw" = some m.cls := findClass_of_methodNamed Bd.named
  have hnm := (name_of_methodNamed Bd.named Bd.method).1
  have X0 : Stand p l e room_1 s m #[(.int p1), (.int p2), (.int p3), (.int p4)] below meth c s₁ [] 0 0 := Stand.of_body Bd
  have e0 : s₁.heap = h0 := by rw [← hh, Bd.state]; rfl
  have N0 := Fr.nil n0
  refine own_body fun P hP => ?_
  refine own_st (t' := s₁.setTop (mkF m 0 #[.val (.int p1), .val (.int p2), .val (.int p3), .val (.int p4), .unset, .unset, .unset, .unset, .unset, .unset, .unset, .unset, .unset, .unset, .unset] [])) (fun _ k => castTop (own_rm0_ef m p1 p2 p3 p4) k) ?_
  refine own_st (t' := s₁.setTop (mkF m 1 #[.val (.int p1), .val (.int p2), .val (.int p3), .val (.int p4), .unset, .unset, .unset, .unset, .unset, .unset, .unset, .unset, .unset, .unset, .unset] [(.int (4 : Int32))])) (fun _ k => XS.iconst X0.here hx rfl (hb hby at_0) k) ?_
  obtain ⟨T1, h1, k1, X1, e1, E1, A1, st1⟩ := newP X0 hx hZ (hw _ (List.mem_of_getElem? (i := 0) rfl)) e0 (g := (mkF m 1 #[.val (.int p1), .val (.int p2), .val (.int p3), .val (.int p4), .unset, .unset, .unset, .unset, .unset, .unset, .unset, .unset, .unset, .unset, .unset] [(.int (4 : Int32))])) rfl (hb hby at_1) rfl (by decide) (cap := 4) (by decide) (by decide) (by decide) (by decide)
  obtain ⟨b1, g1⟩ : ∃ z, z = h0.size := ⟨_, rfl⟩
  rw [← g1] at A1 st1
  have V1 : Arv Z h1 b1 k1 .byte (4 : Int32) [(.int (0 : Int32)), (.int (0 : Int32)), (.int (0 : Int32)), (.int (0 : Int32))] (.int (0 : Int32)) := (Arv.new A1 (by decide)).pad (pad_rep [] (.int (0 : Int32)) 4)
  have bg_b1 : n0 ≤ b1 := Nat.le_trans Z0 (Nat.le_of_eq g1.symm)
  have Z1 : n0 ≤ h1.size := Nat.le_trans Z0 E1.1
  refine own_st (t' := T1.setTop (mkF m 3 #[.val (.int p1), .val (.int p2), .val (.int p3), .val (.int p4), .unset, .unset, .unset, .unset, .unset, .unset, .unset, .unset, .unset, .unset, .unset] [(.ref b1)])) st1 ?_
  refine own_st (t' := T1.setTop (mkF m 5 #[.val (.int p1), .val (.int p2), .val (.int p3), .val (.int p4), .val (.ref b1), .unset, .unset, .unset, .unset, .unset, .unset, .unset, .unset, .unset, .unset] [])) (fun _ k => XS.astore X1.here hx rfl (hb hby at_3) rfl rfl (l' := #[.val (.int p1), .val (.int p2), .val (.int p3), .val (.int p4), .val (.ref b1), .unset, .unset, .unset, .unset, .unset, .unset, .unset, .unset, .unset, .unset]) rfl k) ?_
  refine own_st (t' := T1.setTop (mkF m 7 #[.val (.int p1), .val (.int p2), .val (.int p3), .val (.int p4), .val (.ref b1), .unset, .unset, .unset, .unset, .unset, .unset, .unset, .unset, .unset, .unset] [(.ref b1)])) (fun _ k => XS.aload X1.here hx rfl (hb hby at_5) rfl rfl k) ?_
  refine own_st (t' := T1.setTop (mkF m 8 #[.val (.int p1), .val (.int p2), .val (.int p3), .val (.int p4), .val (.ref b1), .unset, .unset, .unset, .unset, .unset, .unset, .unset, .unset, .unset, .unset] [(.int (0 : Int32)), (.ref b1)])) (fun _ k => XS.iconst X1.here hx rfl (hb hby at_7) k) ?_
  refine own_st (t' := T1.setTop (mkF m 9 #[.val (.int p1), .val (.int p2), .val (.int p3), .val (.int p4), .val (.ref b1), .unset, .unset, .unset, .unset, .unset, .unset, .unset, .unset, .unset, .unset] [(.int p1), (.int (0 : Int32)), (.ref b1)])) (fun _ k => XS.iloadN X1.here hx rfl (hb hby at_8) rfl k) ?_
  refine own_st (t' := T1.setTop (mkF m 10 #[.val (.int p1), .val (.int p2), .val (.int p3), .val (.int p4), .val (.ref b1), .unset, .unset, .unset, .unset, .unset, .unset, .unset, .unset, .unset, .unset] [(.int p2), (.int p1), (.int (0 : Int32)), (.ref b1)])) (fun _ k => XS.iloadN X1.here hx rfl (hb hby at_9) rfl k) ?_
  refine own_st (t' := T1.setTop (mkF m 11 #[.val (.int p1), .val (.int p2), .val (.int p3), .val (.int p4), .val (.ref b1), .unset, .unset, .unset, .unset, .unset, .unset, .unset, .unset, .unset, .unset] [(.int (0 : Int32)), (.int p2), (.int p1), (.int (0 : Int32)), (.ref b1)])) (fun _ k => XS.iconst X1.here hx rfl (hb hby at_10) k) ?_
  obtain ⟨_, _, ⟨T2, L2, k2, n2⟩, -, X2, ⟨Lc2, hQ2, l2, y2, z2⟩, st2⟩ := Jvm.LawKit.callS X1 hx (y := (⟨"com/example/hashbook/hashbook/store/RowPagesZerosPinLaw", "pick", "(III)B"⟩ : MethodName)) hown (mvT hZ (hw _ (List.mem_of_getElem? (i := 1) rfl))) (mvT hZ (hw _ (List.mem_of_getElem? (i := 2) rfl))) (mvT hZ (hw _ (List.mem_of_getElem? (i := 3) rfl))) (mvT hZ (hw _ (List.mem_of_getElem? (i := 4) rfl))) (by decide) (backOf (W := 2) (own_rm1 l Z a0 hw [] p1 p2 (0 : Int32)  h1 n0 Z1 ) hZ (hw _ (List.mem_of_getElem? (i := 4) rfl)) (hw _ (List.mem_of_getElem? (i := 3) rfl)) (by decide) (by decide)) (g := (mkF m 11 #[.val (.int p1), .val (.int p2), .val (.int p3), .val (.int p4), .val (.ref b1), .unset, .unset, .unset, .unset, .unset, .unset, .unset, .unset, .unset, .unset] [(.int (0 : Int32)), (.int p2), (.int p1), (.int (0 : Int32)), (.ref b1)])) rfl (by rw [hml]; rfl) (argsL := [(.int p1), (.int p2), (.int (0 : Int32))]) (rest := [(.int (0 : Int32)), (.ref b1)]) (lenOf own_rm0_pd0 rfl) rfl (by show 2 * 0 + _ ≤ _; exact Nat.le_of_eq rfl) (hb hby at_11) (fun _ _ => ⟨rfl, e1, (by decide : 0 + 1 + 0 ≤ _), (by decide : 0 + 4 + 0 ≤ _)⟩)
  dsimp only [Pt.U, Pt.locs, Pt.cells, Pt.slots] at X2 l2 y2 z2 st2 hQ2
  subst l2 y2 z2
  obtain ⟨rfl, N2q, e2⟩ := hQ2
  have N2 := Fr.app N0 N2q
  refine own_st (t' := T2.setTop (mkF m 14 #[.val (.int p1), .val (.int p2), .val (.int p3), .val (.int p4), .val (.ref b1), .unset, .unset, .unset, .unset, .unset, .unset, .unset, .unset, .unset, .unset] [(.int (own_pick p1 p2 (0 : Int32))), (.int (0 : Int32)), (.ref b1)])) st2 ?_
  obtain ⟨cl_3, Ar_3, qa_3, Sa_3, Ma_3, Ha_3, Ga_3⟩ := id V1
  have hin_3 : ¬ ((0 : Int32) < 0 ∨ cl_3.slots.size ≤ ((0 : Int32)).toNatClampNeg) := inb_of Sa_3 ⟨by decide, by decide⟩
  obtain ⟨T4, h4, X4, e4, W4, st4⟩ := stB X2 hx hZ e2 Ar_3 (j := (0 : Int32)) hin_3 (g := (mkF m 14 #[.val (.int p1), .val (.int p2), .val (.int p3), .val (.int p4), .val (.ref b1), .unset, .unset, .unset, .unset, .unset, .unset, .unset, .unset, .unset, .unset] [(.int (own_pick p1 p2 (0 : Int32))), (.int (0 : Int32)), (.ref b1)])) rfl rfl (hb hby at_14)
  have V4 : Arv Z h4 b1 k1 .byte (4 : Int32) [(.int (nar .byte (own_pick p1 p2 (0 : Int32)))), (.int (0 : Int32)), (.int (0 : Int32)), (.int (0 : Int32))] (.int (0 : Int32)) := Arv.set Ar_3 qa_3 Sa_3 Ma_3 Ha_3 Ga_3 (fits_nar_byte _) W4 0 rfl (Nat.le_of_ble_eq_true rfl)
  have N4 := Fr.snoc X4 N2 bg_b1
  have Z4 : n0 ≤ h4.size := Nat.le_trans Z1 (Keep.of_wr W4).1
  refine own_st (t' := T4.setTop (mkF m 15 #[.val (.int p1), .val (.int p2), .val (.int p3), .val (.int p4), .val (.ref b1), .unset, .unset, .unset, .unset, .unset, .unset, .unset, .unset, .unset, .unset] [])) st4 ?_
  refine own_st (t' := T4.setTop (mkF m 17 #[.val (.int p1), .val (.int p2), .val (.int p3), .val (.int p4), .val (.ref b1), .unset, .unset, .unset, .unset, .unset, .unset, .unset, .unset, .unset, .unset] [(.ref b1)])) (fun _ k => XS.aload X4.here hx rfl (hb hby at_15) rfl rfl k) ?_
  refine own_st (t' := T4.setTop (mkF m 18 #[.val (.int p1), .val (.int p2), .val (.int p3), .val (.int p4), .val (.ref b1), .unset, .unset, .unset, .unset, .unset, .unset, .unset, .unset, .unset, .unset] [(.int (1 : Int32)), (.ref b1)])) (fun _ k => XS.iconst X4.here hx rfl (hb hby at_17) k) ?_
  refine own_st (t' := T4.setTop (mkF m 19 #[.val (.int p1), .val (.int p2), .val (.int p3), .val (.int p4), .val (.ref b1), .unset, .unset, .unset, .unset, .unset, .unset, .unset, .unset, .unset, .unset] [(.int p1), (.int (1 : Int32)), (.ref b1)])) (fun _ k => XS.iloadN X4.here hx rfl (hb hby at_18) rfl k) ?_
  refine own_st (t' := T4.setTop (mkF m 20 #[.val (.int p1), .val (.int p2), .val (.int p3), .val (.int p4), .val (.ref b1), .unset, .unset, .unset, .unset, .unset, .unset, .unset, .unset, .unset, .unset] [(.int p2), (.int p1), (.int (1 : Int32)), (.ref b1)])) (fun _ k => XS.iloadN X4.here hx rfl (hb hby at_19) rfl k) ?_
  refine own_st (t' := T4.setTop (mkF m 21 #[.val (.int p1), .val (.int p2), .val (.int p3), .val (.int p4), .val (.ref b1), .unset, .unset, .unset, .unset, .unset, .unset, .unset, .unset, .unset, .unset] [(.int (1 : Int32)), (.int p2), (.int p1), (.int (1 : Int32)), (.ref b1)])) (fun _ k => XS.iconst X4.here hx rfl (hb hby at_20) k) ?_
  obtain ⟨_, _, ⟨T5, L5, k5, n5⟩, -, X5, ⟨Lc5, hQ5, l5, y5, z5⟩, st5⟩ := Jvm.LawKit.callS X4 hx (y := (⟨"com/example/hashbook/hashbook/store/RowPagesZerosPinLaw", "pick", "(III)B"⟩ : MethodName)) hown (mvT hZ (hw _ (List.mem_of_getElem? (i := 1) rfl))) (mvT hZ (hw _ (List.mem_of_getElem? (i := 2) rfl))) (mvT hZ (hw _ (List.mem_of_getElem? (i := 3) rfl))) (mvT hZ (hw _ (List.mem_of_getElem? (i := 4) rfl))) (by decide) (backOf (W := 2) (own_rm1 l Z a0 hw [] p1 p2 (1 : Int32)  h4 n0 Z4 ) hZ (hw _ (List.mem_of_getElem? (i := 4) rfl)) (hw _ (List.mem_of_getElem? (i := 3) rfl)) (by decide) (by decide)) (g := (mkF m 21 #[.val (.int p1), .val (.int p2), .val (.int p3), .val (.int p4), .val (.ref b1), .unset, .unset, .unset, .unset, .unset, .unset, .unset, .unset, .unset, .unset] [(.int (1 : Int32)), (.int p2), (.int p1), (.int (1 : Int32)), (.ref b1)])) rfl (by rw [hml]; rfl) (argsL := [(.int p1), (.int p2), (.int (1 : Int32))]) (rest := [(.int (1 : Int32)), (.ref b1)]) (lenOf own_rm0_pd0 rfl) rfl (by show 2 * 0 + _ ≤ _; exact Nat.le_of_eq rfl) (hb hby at_21) (fun _ _ => ⟨rfl, e4, (by decide : 0 + 1 + 0 + 0 ≤ _), (by decide : 0 + 4 + 0 + 0 ≤ _)⟩)
  dsimp only [Pt.U, Pt.locs, Pt.cells, Pt.slots] at X5 l5 y5 z5 st5 hQ5
  subst l5 y5 z5
  obtain ⟨rfl, N5q, e5⟩ := hQ5
  have N5 := Fr.app N4 N5q
  refine own_st (t' := T5.setTop (mkF m 24 #[.val (.int p1), .val (.int p2), .val (.int p3), .val (.int p4), .val (.ref b1), .unset, .unset, .unset, .unset, .unset, .unset, .unset, .unset, .unset, .unset] [(.int (own_pick p1 p2 (1 : Int32))), (.int (1 : Int32)), (.ref b1)])) st5 ?_
  obtain ⟨cl_6, Ar_6, qa_6, Sa_6, Ma_6, Ha_6, Ga_6⟩ := id V4
  have hin_6 : ¬ ((1 : Int32) < 0 ∨ cl_6.slots.size ≤ ((1 : Int32)).toNatClampNeg) := inb_of Sa_6 ⟨by decide, by decide⟩
  obtain ⟨T7, h7, X7, e7, W7, st7⟩ := stB X5 hx hZ e5 Ar_6 (j := (1 : Int32)) hin_6 (g := (mkF m 24 #[.val (.int p1), .val (.int p2), .val (.int p3), .val (.int p4), .val (.ref b1), .unset, .unset, .unset, .unset, .unset, .unset, .unset, .unset, .unset, .unset] [(.int (own_pick p1 p2 (1 : Int32))), (.int (1 : Int32)), (.ref b1)])) rfl rfl (hb hby at_24)
  have V7 : Arv Z h7 b1 k1 .byte (4 : Int32) [(.int (nar .byte (own_pick p1 p2 (0 : Int32)))), (.int (nar .byte (own_pick p1 p2 (1 : Int32)))), (.int (0 : Int32)), (.int (0 : Int32))] (.int (0 : Int32)) := Arv.set Ar_6 qa_6 Sa_6 Ma_6 Ha_6 Ga_6 (fits_nar_byte _) W7 1 rfl (Nat.le_of_ble_eq_true rfl)
  have N7 := Fr.snoc X7 N5 bg_b1
  have Z7 : n0 ≤ h7.size := Nat.le_trans Z4 (Keep.of_wr W7).1
  refine own_st (t' := T7.setTop (mkF m 25 #[.val (.int p1), .val (.int p2), .val (.int p3), .val (.int p4), .val (.ref b1), .unset, .unset, .unset, .unset, .unset, .unset, .unset, .unset, .unset, .unset] [])) st7 ?_
  refine own_st (t' := T7.setTop (mkF m 27 #[.val (.int p1), .val (.int p2), .val (.int p3), .val (.int p4), .val (.ref b1), .unset, .unset, .unset, .unset, .unset, .unset, .unset, .unset, .unset, .unset] [(.ref b1)])) (fun _ k => XS.aload X7.here hx rfl (hb hby at_25) rfl rfl k) ?_
  refine own_st (t' := T7.setTop (mkF m 28 #[.val (.int p1), .val (.int p2), .val (.int p3), .val (.int p4), .val (.ref b1), .unset, .unset, .unset, .unset, .unset, .unset, .unset, .unset, .unset, .unset] [(.int (2 : Int32)), (.ref b1)])) (fun _ k => XS.iconst X7.here hx rfl (hb hby at_27) k) ?_
  refine own_st (t' := T7.setTop (mkF m 29 #[.val (.int p1), .val (.int p2), .val (.int p3), .val (.int p4), .val (.ref b1), .unset, .unset, .unset, .unset, .unset, .unset, .unset, .unset, .unset, .unset] [(.int p1), (.int (2 : Int32)), (.ref b1)])) (fun _ k => XS.iloadN X7.here hx rfl (hb hby at_28) rfl k) ?_
  refine own_st (t' := T7.setTop (mkF m 30 #[.val (.int p1), .val (.int p2), .val (.int p3), .val (.int p4), .val (.ref b1), .unset, .unset, .unset, .unset, .unset, .unset, .unset, .unset, .unset, .unset] [(.int p2), (.int p1), (.int (2 : Int32)), (.ref b1)])) (fun _ k => XS.iloadN X7.here hx rfl (hb hby at_29) rfl k) ?_
  refine own_st (t' := T7.setTop (mkF m 31 #[.val (.int p1), .val (.int p2), .val (.int p3), .val (.int p4), .val (.ref b1), .unset, .unset, .unset, .unset, .unset, .unset, .unset, .unset, .unset, .unset] [(.int (2 : Int32)), (.int p2), (.int p1), (.int (2 : Int32)), (.ref b1)])) (fun _ k => XS.iconst X7.here hx rfl (hb hby at_30) k) ?_
  obtain ⟨_, _, ⟨T8, L8, k8, n8⟩, -, X8, ⟨Lc8, hQ8, l8, y8, z8⟩, st8⟩ := Jvm.LawKit.callS X7 hx (y := (⟨"com/example/hashbook/hashbook/store/RowPagesZerosPinLaw", "pick", "(III)B"⟩ : MethodName)) hown (mvT hZ (hw _ (List.mem_of_getElem? (i := 1) rfl))) (mvT hZ (hw _ (List.mem_of_getElem? (i := 2) rfl))) (mvT hZ (hw _ (List.mem_of_getElem? (i := 3) rfl))) (mvT hZ (hw _ (List.mem_of_getElem? (i := 4) rfl))) (by decide) (backOf (W := 2) (own_rm1 l Z a0 hw [] p1 p2 (2 : Int32)  h7 n0 Z7 ) hZ (hw _ (List.mem_of_getElem? (i := 4) rfl)) (hw _ (List.mem_of_getElem? (i := 3) rfl)) (by decide) (by decide)) (g := (mkF m 31 #[.val (.int p1), .val (.int p2), .val (.int p3), .val (.int p4), .val (.ref b1), .unset, .unset, .unset, .unset, .unset, .unset, .unset, .unset, .unset, .unset] [(.int (2 : Int32)), (.int p2), (.int p1), (.int (2 : Int32)), (.ref b1)])) rfl (by rw [hml]; rfl) (argsL := [(.int p1), (.int p2), (.int (2 : Int32))]) (rest := [(.int (2 : Int32)), (.ref b1)]) (lenOf own_rm0_pd0 rfl) rfl (by show 2 * 0 + _ ≤ _; exact Nat.le_of_eq rfl) (hb hby at_31) (fun _ _ => ⟨rfl, e7, (by decide : 0 + 1 + 0 + 0 + 0 ≤ _), (by decide : 0 + 4 + 0 + 0 + 0 ≤ _)⟩)
  dsimp only [Pt.U, Pt.locs, Pt.cells, Pt.slots] at X8 l8 y8 z8 st8 hQ8
  subst l8 y8 z8
  obtain ⟨rfl, N8q, e8⟩ := hQ8
  have N8 := Fr.app N7 N8q
  refine own_st (t' := T8.setTop (mkF m 34 #[.val (.int p1), .val (.int p2), .val (.int p3), .val (.int p4), .val (.ref b1), .unset, .unset, .unset, .unset, .unset, .unset, .unset, .unset, .unset, .unset] [(.int (own_pick p1 p2 (2 : Int32))), (.int (2 : Int32)), (.ref b1)])) st8 ?_
  obtain ⟨cl_9, Ar_9, qa_9, Sa_9, Ma_9, Ha_9, Ga_9⟩ := id V7
  have hin_9 : ¬ ((2 : Int32) < 0 ∨ cl_9.slots.size ≤ ((2 : Int32)).toNatClampNeg) := inb_of Sa_9 ⟨by decide, by decide⟩
  obtain ⟨T10, h10, X10, e10, W10, st10⟩ := stB X8 hx hZ e8 Ar_9 (j := (2 : Int32)) hin_9 (g := (mkF m 34 #[.val (.int p1), .val (.int p2), .val (.int p3), .val (.int p4), .val (.ref b1), .unset, .unset, .unset, .unset, .unset, .unset, .unset, .unset, .unset, .unset] [(.int (own_pick p1 p2 (2 : Int32))), (.int (2 : Int32)), (.ref b1)])) rfl rfl (hb hby at_34)
  have V10 : Arv Z h10 b1 k1 .byte (4 : Int32) [(.int (nar .byte (own_pick p1 p2 (0 : Int32)))), (.int (nar .byte (own_pick p1 p2 (1 : Int32)))), (.int (nar .byte (own_pick p1 p2 (2 : Int32)))), (.int (0 : Int32))] (.int (0 : Int32)) := Arv.set Ar_9 qa_9 Sa_9 Ma_9 Ha_9 Ga_9 (fits_nar_byte _) W10 2 rfl (Nat.le_of_ble_eq_true rfl)
  have N10 := Fr.snoc X10 N8 bg_b1
  have Z10 : n0 ≤ h10.size := Nat.le_trans Z7 (Keep.of_wr W10).1
  refine own_st (t' := T10.setTop (mkF m 35 #[.val (.int p1), .val (.int p2), .val (.int p3), .val (.int p4), .val (.ref b1), .unset, .unset, .unset, .unset, .unset, .unset, .unset, .unset, .unset, .unset] [])) st10 ?_
  refine own_st (t' := T10.setTop (mkF m 37 #[.val (.int p1), .val (.int p2), .val (.int p3), .val (.int p4), .val (.ref b1), .unset, .unset, .unset, .unset, .unset, .unset, .unset, .unset, .unset, .unset] [(.ref b1)])) (fun _ k => XS.aload X10.here hx rfl (hb hby at_35) rfl rfl k) ?_
  refine own_st (t' := T10.setTop (mkF m 38 #[.val (.int p1), .val (.int p2), .val (.int p3), .val (.int p4), .val (.ref b1), .unset, .unset, .unset, .unset, .unset, .unset, .unset, .unset, .unset, .unset] [(.int (3 : Int32)), (.ref b1)])) (fun _ k => XS.iconst X10.here hx rfl (hb hby at_37) k) ?_
  refine own_st (t' := T10.setTop (mkF m 39 #[.val (.int p1), .val (.int p2), .val (.int p3), .val (.int p4), .val (.ref b1), .unset, .unset, .unset, .unset, .unset, .unset, .unset, .unset, .unset, .unset] [(.int p1), (.int (3 : Int32)), (.ref b1)])) (fun _ k => XS.iloadN X10.here hx rfl (hb hby at_38) rfl k) ?_
  refine own_st (t' := T10.setTop (mkF m 40 #[.val (.int p1), .val (.int p2), .val (.int p3), .val (.int p4), .val (.ref b1), .unset, .unset, .unset, .unset, .unset, .unset, .unset, .unset, .unset, .unset] [(.int p2), (.int p1), (.int (3 : Int32)), (.ref b1)])) (fun _ k => XS.iloadN X10.here hx rfl (hb hby at_39) rfl k) ?_
  refine own_st (t' := T10.setTop (mkF m 41 #[.val (.int p1), .val (.int p2), .val (.int p3), .val (.int p4), .val (.ref b1), .unset, .unset, .unset, .unset, .unset, .unset, .unset, .unset, .unset, .unset] [(.int (3 : Int32)), (.int p2), (.int p1), (.int (3 : Int32)), (.ref b1)])) (fun _ k => XS.iconst X10.here hx rfl (hb hby at_40) k) ?_
  obtain ⟨_, _, ⟨T11, L11, k11, n11⟩, -, X11, ⟨Lc11, hQ11, l11, y11, z11⟩, st11⟩ := Jvm.LawKit.callS X10 hx (y := (⟨"com/example/hashbook/hashbook/store/RowPagesZerosPinLaw", "pick", "(III)B"⟩ : MethodName)) hown (mvT hZ (hw _ (List.mem_of_getElem? (i := 1) rfl))) (mvT hZ (hw _ (List.mem_of_getElem? (i := 2) rfl))) (mvT hZ (hw _ (List.mem_of_getElem? (i := 3) rfl))) (mvT hZ (hw _ (List.mem_of_getElem? (i := 4) rfl))) (by decide) (backOf (W := 2) (own_rm1 l Z a0 hw [] p1 p2 (3 : Int32)  h10 n0 Z10 ) hZ (hw _ (List.mem_of_getElem? (i := 4) rfl)) (hw _ (List.mem_of_getElem? (i := 3) rfl)) (by decide) (by decide)) (g := (mkF m 41 #[.val (.int p1), .val (.int p2), .val (.int p3), .val (.int p4), .val (.ref b1), .unset, .unset, .unset, .unset, .unset, .unset, .unset, .unset, .unset, .unset] [(.int (3 : Int32)), (.int p2), (.int p1), (.int (3 : Int32)), (.ref b1)])) rfl (by rw [hml]; rfl) (argsL := [(.int p1), (.int p2), (.int (3 : Int32))]) (rest := [(.int (3 : Int32)), (.ref b1)]) (lenOf own_rm0_pd0 rfl) rfl (by show 2 * 0 + _ ≤ _; exact Nat.le_of_eq rfl) (hb hby at_41) (fun _ _ => ⟨rfl, e10, (by decide : 0 + 1 + 0 + 0 + 0 + 0 ≤ _), (by decide : 0 + 4 + 0 + 0 + 0 + 0 ≤ _)⟩)
  dsimp only [Pt.U, Pt.locs, Pt.cells, Pt.slots] at X11 l11 y11 z11 st11 hQ11
  subst l11 y11 z11
  obtain ⟨rfl, N11q, e11⟩ := hQ11
  have N11 := Fr.app N10 N11q
  refine own_st (t' := T11.setTop (mkF m 44 #[.val (.int p1), .val (.int p2), .val (.int p3), .val (.int p4), .val (.ref b1), .unset, .unset, .unset, .unset, .unset, .unset, .unset, .unset, .unset, .unset] [(.int (own_pick p1 p2 (3 : Int32))), (.int (3 : Int32)), (.ref b1)])) st11 ?_
  obtain ⟨cl_12, Ar_12, qa_12, Sa_12, Ma_12, Ha_12, Ga_12⟩ := id V10
  have hin_12 : ¬ ((3 : Int32) < 0 ∨ cl_12.slots.size ≤ ((3 : Int32)).toNatClampNeg) := inb_of Sa_12 ⟨by decide, by decide⟩
  obtain ⟨T13, h13, X13, e13, W13, st13⟩ := stB X11 hx hZ e11 Ar_12 (j := (3 : Int32)) hin_12 (g := (mkF m 44 #[.val (.int p1), .val (.int p2), .val (.int p3), .val (.int p4), .val (.ref b1), .unset, .unset, .unset, .unset, .unset, .unset, .unset, .unset, .unset, .unset] [(.int (own_pick p1 p2 (3 : Int32))), (.int (3 : Int32)), (.ref b1)])) rfl rfl (hb hby at_44)
  have V13 : Arv Z h13 b1 k1 .byte (4 : Int32) [(.int (nar .byte (own_pick p1 p2 (0 : Int32)))), (.int (nar .byte (own_pick p1 p2 (1 : Int32)))), (.int (nar .byte (own_pick p1 p2 (2 : Int32)))), (.int (nar .byte (own_pick p1 p2 (3 : Int32))))] (.int (0 : Int32)) := Arv.set Ar_12 qa_12 Sa_12 Ma_12 Ha_12 Ga_12 (fits_nar_byte _) W13 3 rfl (Nat.le_of_ble_eq_true rfl)
  have N13 := Fr.snoc X13 N11 bg_b1
  have Z13 : n0 ≤ h13.size := Nat.le_trans Z10 (Keep.of_wr W13).1
  refine own_st (t' := T13.setTop (mkF m 45 #[.val (.int p1), .val (.int p2), .val (.int p3), .val (.int p4), .val (.ref b1), .unset, .unset, .unset, .unset, .unset, .unset, .unset, .unset, .unset, .unset] [])) st13 ?_
  obtain ⟨v0, hv0⟩ : ∃ z, z = (nar .byte (own_pick p1 p2 (0 : Int32))) := ⟨_, rfl⟩
  rw [← hv0] at V13
  obtain ⟨v1, hv1⟩ : ∃ z, z = (nar .byte (own_pick p1 p2 (1 : Int32))) := ⟨_, rfl⟩
  rw [← hv1] at V13
  obtain ⟨v2, hv2⟩ : ∃ z, z = (nar .byte (own_pick p1 p2 (2 : Int32))) := ⟨_, rfl⟩
  rw [← hv2] at V13
  obtain ⟨v3, hv3⟩ : ∃ z, z = (nar .byte (own_pick p1 p2 (3 : Int32))) := ⟨_, rfl⟩
  rw [← hv3] at V13
  refine own_st (t' := T13.setTop (mkF m 47 #[.val (.int p1), .val (.int p2), .val (.int p3), .val (.int p4), .val (.ref b1), .unset, .unset, .unset, .unset, .unset, .unset, .unset, .unset, .unset, .unset] [(.ref b1)])) (fun _ k => XS.aload X13.here hx rfl (hb hby at_45) rfl rfl k) ?_
  refine own_st (t' := T13.setTop (mkF m 48 #[.val (.int p1), .val (.int p2), .val (.int p3), .val (.int p4), .val (.ref b1), .unset, .unset, .unset, .unset, .unset, .unset, .unset, .unset, .unset, .unset] [(.int (0 : Int32)), (.ref b1)])) (fun _ k => XS.iconst X13.here hx rfl (hb hby at_47) k) ?_
  obtain ⟨cl_14, Ar_14, qa_14, Sa_14, Ma_14, Ha_14, Ga_14⟩ := id V13
  have hin_14 : ¬ ((0 : Int32) < 0 ∨ cl_14.slots.size ≤ ((0 : Int32)).toNatClampNeg) := inb_of Sa_14 ⟨by decide, by decide⟩
  refine own_st (t' := T13.setTop (mkF m 49 #[.val (.int p1), .val (.int p2), .val (.int p3), .val (.int p4), .val (.ref b1), .unset, .unset, .unset, .unset, .unset, .unset, .unset, .unset, .unset, .unset] [(.int v0)])) (fun _ k => X13.baloadBytes hx (j := (0 : Int32)) (v := (.int v0)) (by rw [e13]; exact Ar_14.1) (State.isArrayOf_alike hZ.alike Ar_14.2.1) Ar_14.2.2 hin_14 (Has.at Ha_14 hin_14 rfl) (g := (mkF m 48 #[.val (.int p1), .val (.int p2), .val (.int p3), .val (.int p4), .val (.ref b1), .unset, .unset, .unset, .unset, .unset, .unset, .unset, .unset, .unset, .unset] [(.int (0 : Int32)), (.ref b1)])) rfl rfl (hb hby at_48) _ k) ?_
  refine own_st (t' := T13.setTop (mkF m 51 #[.val (.int p1), .val (.int p2), .val (.int p3), .val (.int p4), .val (.ref b1), .val (.int v0), .unset, .unset, .unset, .unset, .unset, .unset, .unset, .unset, .unset] [])) (fun _ k => XS.istore X13.here hx rfl (hb hby at_49) rfl (l' := #[.val (.int p1), .val (.int p2), .val (.int p3), .val (.int p4), .val (.ref b1), .val (.int v0), .unset, .unset, .unset, .unset, .unset, .unset, .unset, .unset, .unset]) rfl k) ?_
  refine own_st (t' := T13.setTop (mkF m 53 #[.val (.int p1), .val (.int p2), .val (.int p3), .val (.int p4), .val (.ref b1), .val (.int v0), .unset, .unset, .unset, .unset, .unset, .unset, .unset, .unset, .unset] [(.ref b1)])) (fun _ k => XS.aload X13.here hx rfl (hb hby at_51) rfl rfl k) ?_
  refine own_st (t' := T13.setTop (mkF m 54 #[.val (.int p1), .val (.int p2), .val (.int p3), .val (.int p4), .val (.ref b1), .val (.int v0), .unset, .unset, .unset, .unset, .unset, .unset, .unset, .unset, .unset] [(.int (1 : Int32)), (.ref b1)])) (fun _ k => XS.iconst X13.here hx rfl (hb hby at_53) k) ?_
  obtain ⟨cl_15, Ar_15, qa_15, Sa_15, Ma_15, Ha_15, Ga_15⟩ := id V13
  have hin_15 : ¬ ((1 : Int32) < 0 ∨ cl_15.slots.size ≤ ((1 : Int32)).toNatClampNeg) := inb_of Sa_15 ⟨by decide, by decide⟩
  refine own_st (t' := T13.setTop (mkF m 55 #[.val (.int p1), .val (.int p2), .val (.int p3), .val (.int p4), .val (.ref b1), .val (.int v0), .unset, .unset, .unset, .unset, .unset, .unset, .unset, .unset, .unset] [(.int v1)])) (fun _ k => X13.baloadBytes hx (j := (1 : Int32)) (v := (.int v1)) (by rw [e13]; exact Ar_15.1) (State.isArrayOf_alike hZ.alike Ar_15.2.1) Ar_15.2.2 hin_15 (Has.at Ha_15 hin_15 rfl) (g := (mkF m 54 #[.val (.int p1), .val (.int p2), .val (.int p3), .val (.int p4), .val (.ref b1), .val (.int v0), .unset, .unset, .unset, .unset, .unset, .unset, .unset, .unset, .unset] [(.int (1 : Int32)), (.ref b1)])) rfl rfl (hb hby at_54) _ k) ?_
  refine own_st (t' := T13.setTop (mkF m 57 #[.val (.int p1), .val (.int p2), .val (.int p3), .val (.int p4), .val (.ref b1), .val (.int v0), .val (.int v1), .unset, .unset, .unset, .unset, .unset, .unset, .unset, .unset] [])) (fun _ k => XS.istore X13.here hx rfl (hb hby at_55) rfl (l' := #[.val (.int p1), .val (.int p2), .val (.int p3), .val (.int p4), .val (.ref b1), .val (.int v0), .val (.int v1), .unset, .unset, .unset, .unset, .unset, .unset, .unset, .unset]) rfl k) ?_
  refine own_st (t' := T13.setTop (mkF m 59 #[.val (.int p1), .val (.int p2), .val (.int p3), .val (.int p4), .val (.ref b1), .val (.int v0), .val (.int v1), .unset, .unset, .unset, .unset, .unset, .unset, .unset, .unset] [(.ref b1)])) (fun _ k => XS.aload X13.here hx rfl (hb hby at_57) rfl rfl k) ?_
  refine own_st (t' := T13.setTop (mkF m 60 #[.val (.int p1), .val (.int p2), .val (.int p3), .val (.int p4), .val (.ref b1), .val (.int v0), .val (.int v1), .unset, .unset, .unset, .unset, .unset, .unset, .unset, .unset] [(.int (2 : Int32)), (.ref b1)])) (fun _ k => XS.iconst X13.here hx rfl (hb hby at_59) k) ?_
  obtain ⟨cl_16, Ar_16, qa_16, Sa_16, Ma_16, Ha_16, Ga_16⟩ := id V13
  have hin_16 : ¬ ((2 : Int32) < 0 ∨ cl_16.slots.size ≤ ((2 : Int32)).toNatClampNeg) := inb_of Sa_16 ⟨by decide, by decide⟩
  refine own_st (t' := T13.setTop (mkF m 61 #[.val (.int p1), .val (.int p2), .val (.int p3), .val (.int p4), .val (.ref b1), .val (.int v0), .val (.int v1), .unset, .unset, .unset, .unset, .unset, .unset, .unset, .unset] [(.int v2)])) (fun _ k => X13.baloadBytes hx (j := (2 : Int32)) (v := (.int v2)) (by rw [e13]; exact Ar_16.1) (State.isArrayOf_alike hZ.alike Ar_16.2.1) Ar_16.2.2 hin_16 (Has.at Ha_16 hin_16 rfl) (g := (mkF m 60 #[.val (.int p1), .val (.int p2), .val (.int p3), .val (.int p4), .val (.ref b1), .val (.int v0), .val (.int v1), .unset, .unset, .unset, .unset, .unset, .unset, .unset, .unset] [(.int (2 : Int32)), (.ref b1)])) rfl rfl (hb hby at_60) _ k) ?_
  refine own_st (t' := T13.setTop (mkF m 63 #[.val (.int p1), .val (.int p2), .val (.int p3), .val (.int p4), .val (.ref b1), .val (.int v0), .val (.int v1), .val (.int v2), .unset, .unset, .unset, .unset, .unset, .unset, .unset] [])) (fun _ k => XS.istore X13.here hx rfl (hb hby at_61) rfl (l' := #[.val (.int p1), .val (.int p2), .val (.int p3), .val (.int p4), .val (.ref b1), .val (.int v0), .val (.int v1), .val (.int v2), .unset, .unset, .unset, .unset, .unset, .unset, .unset]) rfl k) ?_
  refine own_st (t' := T13.setTop (mkF m 65 #[.val (.int p1), .val (.int p2), .val (.int p3), .val (.int p4), .val (.ref b1), .val (.int v0), .val (.int v1), .val (.int v2), .unset, .unset, .unset, .unset, .unset, .unset, .unset] [(.ref b1)])) (fun _ k => XS.aload X13.here hx rfl (hb hby at_63) rfl rfl k) ?_
  refine own_st (t' := T13.setTop (mkF m 66 #[.val (.int p1), .val (.int p2), .val (.int p3), .val (.int p4), .val (.ref b1), .val (.int v0), .val (.int v1), .val (.int v2), .unset, .unset, .unset, .unset, .unset, .unset, .unset] [(.int (3 : Int32)), (.ref b1)])) (fun _ k => XS.iconst X13.here hx rfl (hb hby at_65) k) ?_
  obtain ⟨cl_17, Ar_17, qa_17, Sa_17, Ma_17, Ha_17, Ga_17⟩ := id V13
  have hin_17 : ¬ ((3 : Int32) < 0 ∨ cl_17.slots.size ≤ ((3 : Int32)).toNatClampNeg) := inb_of Sa_17 ⟨by decide, by decide⟩
  refine own_st (t' := T13.setTop (mkF m 67 #[.val (.int p1), .val (.int p2), .val (.int p3), .val (.int p4), .val (.ref b1), .val (.int v0), .val (.int v1), .val (.int v2), .unset, .unset, .unset, .unset, .unset, .unset, .unset] [(.int v3)])) (fun _ k => X13.baloadBytes hx (j := (3 : Int32)) (v := (.int v3)) (by rw [e13]; exact Ar_17.1) (State.isArrayOf_alike hZ.alike Ar_17.2.1) Ar_17.2.2 hin_17 (Has.at Ha_17 hin_17 rfl) (g := (mkF m 66 #[.val (.int p1), .val (.int p2), .val (.int p3), .val (.int p4), .val (.ref b1), .val (.int v0), .val (.int v1), .val (.int v2), .unset, .unset, .unset, .unset, .unset, .unset, .unset] [(.int (3 : Int32)), (.ref b1)])) rfl rfl (hb hby at_66) _ k) ?_
  refine own_st (t' := T13.setTop (mkF m 69 #[.val (.int p1), .val (.int p2), .val (.int p3), .val (.int p4), .val (.ref b1), .val (.int v0), .val (.int v1), .val (.int v2), .val (.int v3), .unset, .unset, .unset, .unset, .unset, .unset] [])) (fun _ k => XS.istore X13.here hx rfl (hb hby at_67) rfl (l' := #[.val (.int p1), .val (.int p2), .val (.int p3), .val (.int p4), .val (.ref b1), .val (.int v0), .val (.int v1), .val (.int v2), .val (.int v3), .unset, .unset, .unset, .unset, .unset, .unset]) rfl k) ?_
  refine own_st (t' := T13.setTop (mkF m 70 #[.val (.int p1), .val (.int p2), .val (.int p3), .val (.int p4), .val (.ref b1), .val (.int v0), .val (.int v1), .val (.int v2), .val (.int v3), .unset, .unset, .unset, .unset, .unset, .unset] [(.int p3)])) (fun _ k => XS.iloadN X13.here hx rfl (hb hby at_69) rfl k) ?_
  refine own_st (t' := T13.setTop (mkF m 72 #[.val (.int p1), .val (.int p2), .val (.int p3), .val (.int p4), .val (.ref b1), .val (.int v0), .val (.int v1), .val (.int v2), .val (.int v3), .unset, .unset, .unset, .unset, .unset, .unset] [(.int (2147483647 : Int32)), (.int p3)])) (fun _ k => X13.ldcInt hx hown (mvT hZ (hw _ (List.mem_of_getElem? (i := 5) rfl))) (g := (mkF m 70 #[.val (.int p1), .val (.int p2), .val (.int p3), .val (.int p4), .val (.ref b1), .val (.int v0), .val (.int v1), .val (.int v2), .val (.int v3), .unset, .unset, .unset, .unset, .unset, .unset] [(.int p3)])) rfl (hb hby at_70) _ k) ?_
  refine own_st (t' := T13.setTop (mkF m 73 #[.val (.int p1), .val (.int p2), .val (.int p3), .val (.int p4), .val (.ref b1), .val (.int v0), .val (.int v1), .val (.int v2), .val (.int v3), .unset, .unset, .unset, .unset, .unset, .unset] [(.int (p3 &&& (2147483647 : Int32)))])) (fun _ k => XS.iand X13.here hx rfl (hb hby at_72) rfl k) ?_
  refine own_st (t' := T13.setTop (mkF m 74 #[.val (.int p1), .val (.int p2), .val (.int p3), .val (.int p4), .val (.ref b1), .val (.int v0), .val (.int v1), .val (.int v2), .val (.int v3), .unset, .unset, .unset, .unset, .unset, .unset] [(.int (5 : Int32)), (.int (p3 &&& (2147483647 : Int32)))])) (fun _ k => XS.iconst X13.here hx rfl (hb hby at_73) k) ?_
  refine own_st (t' := T13.setTop (mkF m 75 #[.val (.int p1), .val (.int p2), .val (.int p3), .val (.int p4), .val (.ref b1), .val (.int v0), .val (.int v1), .val (.int v2), .val (.int v3), .unset, .unset, .unset, .unset, .unset, .unset] [(.int ((p3 &&& (2147483647 : Int32)) % (5 : Int32)))])) (fun _ k => iremM (g := (mkF m 74 #[.val (.int p1), .val (.int p2), .val (.int p3), .val (.int p4), .val (.ref b1), .val (.int v0), .val (.int v1), .val (.int v2), .val (.int v3), .unset, .unset, .unset, .unset, .unset, .unset] [(.int (5 : Int32)), (.int (p3 &&& (2147483647 : Int32)))])) X13 hx rfl (hb hby at_74) rfl (by decide) k) ?_
  refine own_st (t' := T13.setTop (mkF m 77 #[.val (.int p1), .val (.int p2), .val (.int p3), .val (.int p4), .val (.ref b1), .val (.int v0), .val (.int v1), .val (.int v2), .val (.int v3), .val (.int ((p3 &&& (2147483647 : Int32)) % (5 : Int32))), .unset, .unset, .unset, .unset, .unset] [])) (fun _ k => XS.istore X13.here hx rfl (hb hby at_75) rfl (l' := #[.val (.int p1), .val (.int p2), .val (.int p3), .val (.int p4), .val (.ref b1), .val (.int v0), .val (.int v1), .val (.int v2), .val (.int v3), .val (.int ((p3 &&& (2147483647 : Int32)) % (5 : Int32))), .unset, .unset, .unset, .unset, .unset]) rfl k) ?_
  have hfr := own_m5 p3
  generalize ((p3 &&& (2147483647 : Int32)) % (5 : Int32)) = fr at hfr ⊢
  refine own_st (t' := T13.setTop (mkF m 78 #[.val (.int p1), .val (.int p2), .val (.int p3), .val (.int p4), .val (.ref b1), .val (.int v0), .val (.int v1), .val (.int v2), .val (.int v3), .val (.int fr), .unset, .unset, .unset, .unset, .unset] [(.int p4)])) (fun _ k => XS.iloadN X13.here hx rfl (hb hby at_77) rfl k) ?_
  refine own_st (t' := T13.setTop (mkF m 80 #[.val (.int p1), .val (.int p2), .val (.int p3), .val (.int p4), .val (.ref b1), .val (.int v0), .val (.int v1), .val (.int v2), .val (.int v3), .val (.int fr), .unset, .unset, .unset, .unset, .unset] [(.int (2147483647 : Int32)), (.int p4)])) (fun _ k => X13.ldcInt hx hown (mvT hZ (hw _ (List.mem_of_getElem? (i := 5) rfl))) (g := (mkF m 78 #[.val (.int p1), .val (.int p2), .val (.int p3), .val (.int p4), .val (.ref b1), .val (.int v0), .val (.int v1), .val (.int v2), .val (.int v3), .val (.int fr), .unset, .unset, .unset, .unset, .unset] [(.int p4)])) rfl (hb hby at_78) _ k) ?_
  refine own_st (t' := T13.setTop (mkF m 81 #[.val (.int p1), .val (.int p2), .val (.int p3), .val (.int p4), .val (.ref b1), .val (.int v0), .val (.int v1), .val (.int v2), .val (.int v3), .val (.int fr), .unset, .unset, .unset, .unset, .unset] [(.int (p4 &&& (2147483647 : Int32)))])) (fun _ k => XS.iand X13.here hx rfl (hb hby at_80) rfl k) ?_
  refine own_st (t' := T13.setTop (mkF m 82 #[.val (.int p1), .val (.int p2), .val (.int p3), .val (.int p4), .val (.ref b1), .val (.int v0), .val (.int v1), .val (.int v2), .val (.int v3), .val (.int fr), .unset, .unset, .unset, .unset, .unset] [(.int (5 : Int32)), (.int (p4 &&& (2147483647 : Int32)))])) (fun _ k => XS.iconst X13.here hx rfl (hb hby at_81) k) ?_
  refine own_st (t' := T13.setTop (mkF m 83 #[.val (.int p1), .val (.int p2), .val (.int p3), .val (.int p4), .val (.ref b1), .val (.int v0), .val (.int v1), .val (.int v2), .val (.int v3), .val (.int fr), .unset, .unset, .unset, .unset, .unset] [(.int ((p4 &&& (2147483647 : Int32)) % (5 : Int32)))])) (fun _ k => iremM (g := (mkF m 82 #[.val (.int p1), .val (.int p2), .val (.int p3), .val (.int p4), .val (.ref b1), .val (.int v0), .val (.int v1), .val (.int v2), .val (.int v3), .val (.int fr), .unset, .unset, .unset, .unset, .unset] [(.int (5 : Int32)), (.int (p4 &&& (2147483647 : Int32)))])) X13 hx rfl (hb hby at_82) rfl (by decide) k) ?_
  refine own_st (t' := T13.setTop (mkF m 85 #[.val (.int p1), .val (.int p2), .val (.int p3), .val (.int p4), .val (.ref b1), .val (.int v0), .val (.int v1), .val (.int v2), .val (.int v3), .val (.int fr), .val (.int ((p4 &&& (2147483647 : Int32)) % (5 : Int32))), .unset, .unset, .unset, .unset] [])) (fun _ k => XS.istore X13.here hx rfl (hb hby at_83) rfl (l' := #[.val (.int p1), .val (.int p2), .val (.int p3), .val (.int p4), .val (.ref b1), .val (.int v0), .val (.int v1), .val (.int v2), .val (.int v3), .val (.int fr), .val (.int ((p4 &&& (2147483647 : Int32)) % (5 : Int32))), .unset, .unset, .unset, .unset]) rfl k) ?_
  have hto := own_m5 p4
  generalize ((p4 &&& (2147483647 : Int32)) % (5 : Int32)) = to at hto ⊢
  refine own_st (t' := T13.setTop (mkF m 87 #[.val (.int p1), .val (.int p2), .val (.int p3), .val (.int p4), .val (.ref b1), .val (.int v0), .val (.int v1), .val (.int v2), .val (.int v3), .val (.int fr), .val (.int to), .unset, .unset, .unset, .unset] [(.ref b1)])) (fun _ k => XS.aload X13.here hx rfl (hb hby at_85) rfl rfl k) ?_
  refine own_st (t' := T13.setTop (mkF m 89 #[.val (.int p1), .val (.int p2), .val (.int p3), .val (.int p4), .val (.ref b1), .val (.int v0), .val (.int v1), .val (.int v2), .val (.int v3), .val (.int fr), .val (.int to), .unset, .unset, .unset, .unset] [(.int fr), (.ref b1)])) (fun _ k => XS.iload X13.here hx rfl (hb hby at_87) rfl k) ?_
  refine own_st (t' := T13.setTop (mkF m 91 #[.val (.int p1), .val (.int p2), .val (.int p3), .val (.int p4), .val (.ref b1), .val (.int v0), .val (.int v1), .val (.int v2), .val (.int v3), .val (.int fr), .val (.int to), .unset, .unset, .unset, .unset] [(.int to), (.int fr), (.ref b1)])) (fun _ k => XS.iload X13.here hx rfl (hb hby at_89) rfl k) ?_
  obtain ⟨_, _, ⟨T18, L18, k18, n18⟩, -, X18, ⟨Lc18, hQ18, l18, y18, z18⟩, st18⟩ := Jvm.LawKit.callS X13 hx (y := (⟨"com/example/hashbook/hashbook/store/RowPages", "zeros", "([BII)Z"⟩ : MethodName)) hown (mvT hZ (hw _ (List.mem_of_getElem? (i := 6) rfl))) (mvT hZ (hw _ (List.mem_of_getElem? (i := 7) rfl))) (mvT hZ (hw _ (List.mem_of_getElem? (i := 8) rfl))) (mvT hZ (hw _ (List.mem_of_getElem? (i := 9) rfl))) (by decide) (backOf (W := 0) (own_rm2 l Z a0 hw [] b1 fr to k1 v0 v1 v2 v3 h13 n0 Z13 V13 hfr hto) hZ (hw _ (List.mem_of_getElem? (i := 9) rfl)) (hw _ (List.mem_of_getElem? (i := 8) rfl)) (by decide) (by decide)) (g := (mkF m 91 #[.val (.int p1), .val (.int p2), .val (.int p3), .val (.int p4), .val (.ref b1), .val (.int v0), .val (.int v1), .val (.int v2), .val (.int v3), .val (.int fr), .val (.int to), .unset, .unset, .unset, .unset] [(.int to), (.int fr), (.ref b1)])) rfl (by rw [hml]; rfl) (argsL := [(.ref b1), (.int fr), (.int to)]) (rest := []) (lenOf own_rm0_pd1 rfl) rfl (by show 2 * 0 + _ ≤ _; exact Nat.le_of_eq rfl) (hb hby at_91) (fun _ _ => ⟨rfl, e13, (by decide : 0 + 1 + 0 + 0 + 0 + 0 + 0 ≤ _), (by decide : 0 + 4 + 0 + 0 + 0 + 0 + 0 ≤ _)⟩)
  dsimp only [Pt.U, Pt.locs, Pt.cells, Pt.slots] at X18 l18 y18 z18 st18 hQ18
  subst l18 y18 z18
  obtain ⟨rfl, N18q, e18⟩ := hQ18
  have N18 := Fr.app N13 N18q
  refine own_st (t' := T18.setTop (mkF m 94 #[.val (.int p1), .val (.int p2), .val (.int p3), .val (.int p4), .val (.ref b1), .val (.int v0), .val (.int v1), .val (.int v2), .val (.int v3), .val (.int fr), .val (.int to), .unset, .unset, .unset, .unset] [(.int (own_z (own_b v0 v1 v2 v3) fr.toInt.toNat (to.toInt.toNat - fr.toInt.toNat)))])) st18 ?_
  refine own_st (t' := T18.setTop (mkF m 96 #[.val (.int p1), .val (.int p2), .val (.int p3), .val (.int p4), .val (.ref b1), .val (.int v0), .val (.int v1), .val (.int v2), .val (.int v3), .val (.int fr), .val (.int to), .val (.int (own_z (own_b v0 v1 v2 v3) fr.toInt.toNat (to.toInt.toNat - fr.toInt.toNat))), .unset, .unset, .unset] [])) (fun _ k => XS.istore X18.here hx rfl (hb hby at_94) rfl (l' := #[.val (.int p1), .val (.int p2), .val (.int p3), .val (.int p4), .val (.ref b1), .val (.int v0), .val (.int v1), .val (.int v2), .val (.int v3), .val (.int fr), .val (.int to), .val (.int (own_z (own_b v0 v1 v2 v3) fr.toInt.toNat (to.toInt.toNat - fr.toInt.toNat))), .unset, .unset, .unset]) rfl k) ?_
  generalize g_got : (own_z (own_b v0 v1 v2 v3) fr.toInt.toNat (to.toInt.toNat - fr.toInt.toNat)) = got
  have J19 : ∀ (Tj19 : State) (lc19 : List Loc), Stand p l e room_1 s m #[(.int p1), (.int p2), (.int p3), (.int p4)] below meth c Tj19 lc19 1 4 → Tj19.heap = h13 → Fr n0 lc19 → ∀ an : Int32, an = (if (own_nz (0 : Int32) fr to v0) = (0 : Int32) then (if (own_nz (1 : Int32) fr to v1) = (0 : Int32) then (if (own_nz (2 : Int32) fr to v2) = (0 : Int32) then (if (own_nz (3 : Int32) fr to v3) = (0 : Int32) then (0 : Int32) else (1 : Int32)) else (1 : Int32)) else (1 : Int32)) else (1 : Int32)) → own_At p e below P (Tj19.setTop (mkF m 153 #[.val (.int p1), .val (.int p2), .val (.int p3), .val (.int p4), .val (.ref b1), .val (.int v0), .val (.int v1), .val (.int v2), .val (.int v3), .val (.int fr), .val (.int to), .val (.int got), .unset, .unset, .unset] [(.int an)])) := by
    intro Tj19 lc19 Xj19 ej19 Nj19
    intro an  hz_an
    refine own_st (t' := Tj19.setTop (mkF m 155 #[.val (.int p1), .val (.int p2), .val (.int p3), .val (.int p4), .val (.ref b1), .val (.int v0), .val (.int v1), .val (.int v2), .val (.int v3), .val (.int fr), .val (.int to), .val (.int got), .val (.int an), .unset, .unset] [])) (fun _ k => XS.istore Xj19.here hx rfl (hb hby at_153) rfl (l' := #[.val (.int p1), .val (.int p2), .val (.int p3), .val (.int p4), .val (.ref b1), .val (.int v0), .val (.int v1), .val (.int v2), .val (.int v3), .val (.int fr), .val (.int to), .val (.int got), .val (.int an), .unset, .unset]) rfl k) ?_
    refine own_st (t' := Tj19.setTop (mkF m 157 #[.val (.int p1), .val (.int p2), .val (.int p3), .val (.int p4), .val (.ref b1), .val (.int v0), .val (.int v1), .val (.int v2), .val (.int v3), .val (.int fr), .val (.int to), .val (.int got), .val (.int an), .unset, .unset] [(.int an)])) (fun _ k => XS.iload Xj19.here hx rfl (hb hby at_155) rfl k) ?_
    by_cases c157_20 : an = (0 : Int32)
    · refine own_st (t' := Tj19.setTop (mkF m 160 #[.val (.int p1), .val (.int p2), .val (.int p3), .val (.int p4), .val (.ref b1), .val (.int v0), .val (.int v1), .val (.int v2), .val (.int v3), .val (.int fr), .val (.int to), .val (.int got), .val (.int an), .unset, .unset] [])) (fun _ k => XS.ifNo Xj19.here hx rfl (hb hby at_157) rfl ((if0 _ _).trans (teq c157_20).2) k) ?_
      refine own_st (t' := Tj19.setTop (mkF m 161 #[.val (.int p1), .val (.int p2), .val (.int p3), .val (.int p4), .val (.ref b1), .val (.int v0), .val (.int v1), .val (.int v2), .val (.int v3), .val (.int fr), .val (.int to), .val (.int got), .val (.int an), .unset, .unset] [(.int (1 : Int32))])) (fun _ k => XS.iconst Xj19.here hx rfl (hb hby at_160) k) ?_
      refine own_st (t' := Tj19.setTop (mkF m 165 #[.val (.int p1), .val (.int p2), .val (.int p3), .val (.int p4), .val (.ref b1), .val (.int v0), .val (.int v1), .val (.int v2), .val (.int v3), .val (.int fr), .val (.int to), .val (.int got), .val (.int an), .unset, .unset] [(.int (1 : Int32))])) (fun _ k => XS.goto Xj19.here hx rfl (pc0 := 161) (pc' := 165) rfl (hb hby at_161) (by decide) (by decide) k) ?_
      refine own_st (t' := Tj19.setTop (mkF m 167 #[.val (.int p1), .val (.int p2), .val (.int p3), .val (.int p4), .val (.ref b1), .val (.int v0), .val (.int v1), .val (.int v2), .val (.int v3), .val (.int fr), .val (.int to), .val (.int got), .val (.int an), .val (.int (1 : Int32)), .unset] [])) (fun _ k => XS.istore Xj19.here hx rfl (hb hby at_165) rfl (l' := #[.val (.int p1), .val (.int p2), .val (.int p3), .val (.int p4), .val (.ref b1), .val (.int v0), .val (.int v1), .val (.int v2), .val (.int v3), .val (.int fr), .val (.int to), .val (.int got), .val (.int an), .val (.int (1 : Int32)), .unset]) rfl k) ?_
      refine own_st (t' := Tj19.setTop (mkF m 169 #[.val (.int p1), .val (.int p2), .val (.int p3), .val (.int p4), .val (.ref b1), .val (.int v0), .val (.int v1), .val (.int v2), .val (.int v3), .val (.int fr), .val (.int to), .val (.int got), .val (.int an), .val (.int (1 : Int32)), .unset] [(.ref b1)])) (fun _ k => XS.aload Xj19.here hx rfl (hb hby at_167) rfl rfl k) ?_
      refine own_st (t' := Tj19.setTop (mkF m 170 #[.val (.int p1), .val (.int p2), .val (.int p3), .val (.int p4), .val (.ref b1), .val (.int v0), .val (.int v1), .val (.int v2), .val (.int v3), .val (.int fr), .val (.int to), .val (.int got), .val (.int an), .val (.int (1 : Int32)), .unset] [(.int (0 : Int32)), (.ref b1)])) (fun _ k => XS.iconst Xj19.here hx rfl (hb hby at_169) k) ?_
      obtain ⟨cl_21, Ar_21, qa_21, Sa_21, Ma_21, Ha_21, Ga_21⟩ := id V13
      have hin_21 : ¬ ((0 : Int32) < 0 ∨ cl_21.slots.size ≤ ((0 : Int32)).toNatClampNeg) := inb_of Sa_21 ⟨by decide, by decide⟩
      refine own_st (t' := Tj19.setTop (mkF m 171 #[.val (.int p1), .val (.int p2), .val (.int p3), .val (.int p4), .val (.ref b1), .val (.int v0), .val (.int v1), .val (.int v2), .val (.int v3), .val (.int fr), .val (.int to), .val (.int got), .val (.int an), .val (.int (1 : Int32)), .unset] [(.int v0)])) (fun _ k => Xj19.baloadBytes hx (j := (0 : Int32)) (v := (.int v0)) (by rw [ej19]; exact Ar_21.1) (State.isArrayOf_alike hZ.alike Ar_21.2.1) Ar_21.2.2 hin_21 (Has.at Ha_21 hin_21 rfl) (g := (mkF m 170 #[.val (.int p1), .val (.int p2), .val (.int p3), .val (.int p4), .val (.ref b1), .val (.int v0), .val (.int v1), .val (.int v2), .val (.int v3), .val (.int fr), .val (.int to), .val (.int got), .val (.int an), .val (.int (1 : Int32)), .unset] [(.int (0 : Int32)), (.ref b1)])) rfl rfl (hb hby at_170) _ k) ?_
      refine own_st (t' := Tj19.setTop (mkF m 173 #[.val (.int p1), .val (.int p2), .val (.int p3), .val (.int p4), .val (.ref b1), .val (.int v0), .val (.int v1), .val (.int v2), .val (.int v3), .val (.int fr), .val (.int to), .val (.int got), .val (.int an), .val (.int (1 : Int32)), .unset] [(.int v0), (.int v0)])) (fun _ k => XS.iload Xj19.here hx rfl (hb hby at_171) rfl k) ?_
      refine own_st (t' := Tj19.setTop (mkF m 176 #[.val (.int p1), .val (.int p2), .val (.int p3), .val (.int p4), .val (.ref b1), .val (.int v0), .val (.int v1), .val (.int v2), .val (.int v3), .val (.int fr), .val (.int to), .val (.int got), .val (.int an), .val (.int (1 : Int32)), .unset] [])) (fun _ k => XS.icmpNo Xj19.here hx rfl (hb hby at_173) rfl (teq (rfl : v0 = v0)).2 k) ?_
      refine own_st (t' := Tj19.setTop (mkF m 178 #[.val (.int p1), .val (.int p2), .val (.int p3), .val (.int p4), .val (.ref b1), .val (.int v0), .val (.int v1), .val (.int v2), .val (.int v3), .val (.int fr), .val (.int to), .val (.int got), .val (.int an), .val (.int (1 : Int32)), .unset] [(.ref b1)])) (fun _ k => XS.aload Xj19.here hx rfl (hb hby at_176) rfl rfl k) ?_
      refine own_st (t' := Tj19.setTop (mkF m 179 #[.val (.int p1), .val (.int p2), .val (.int p3), .val (.int p4), .val (.ref b1), .val (.int v0), .val (.int v1), .val (.int v2), .val (.int v3), .val (.int fr), .val (.int to), .val (.int got), .val (.int an), .val (.int (1 : Int32)), .unset] [(.int (1 : Int32)), (.ref b1)])) (fun _ k => XS.iconst Xj19.here hx rfl (hb hby at_178) k) ?_
      obtain ⟨cl_22, Ar_22, qa_22, Sa_22, Ma_22, Ha_22, Ga_22⟩ := id V13
      have hin_22 : ¬ ((1 : Int32) < 0 ∨ cl_22.slots.size ≤ ((1 : Int32)).toNatClampNeg) := inb_of Sa_22 ⟨by decide, by decide⟩
      refine own_st (t' := Tj19.setTop (mkF m 180 #[.val (.int p1), .val (.int p2), .val (.int p3), .val (.int p4), .val (.ref b1), .val (.int v0), .val (.int v1), .val (.int v2), .val (.int v3), .val (.int fr), .val (.int to), .val (.int got), .val (.int an), .val (.int (1 : Int32)), .unset] [(.int v1)])) (fun _ k => Xj19.baloadBytes hx (j := (1 : Int32)) (v := (.int v1)) (by rw [ej19]; exact Ar_22.1) (State.isArrayOf_alike hZ.alike Ar_22.2.1) Ar_22.2.2 hin_22 (Has.at Ha_22 hin_22 rfl) (g := (mkF m 179 #[.val (.int p1), .val (.int p2), .val (.int p3), .val (.int p4), .val (.ref b1), .val (.int v0), .val (.int v1), .val (.int v2), .val (.int v3), .val (.int fr), .val (.int to), .val (.int got), .val (.int an), .val (.int (1 : Int32)), .unset] [(.int (1 : Int32)), (.ref b1)])) rfl rfl (hb hby at_179) _ k) ?_
      refine own_st (t' := Tj19.setTop (mkF m 182 #[.val (.int p1), .val (.int p2), .val (.int p3), .val (.int p4), .val (.ref b1), .val (.int v0), .val (.int v1), .val (.int v2), .val (.int v3), .val (.int fr), .val (.int to), .val (.int got), .val (.int an), .val (.int (1 : Int32)), .unset] [(.int v1), (.int v1)])) (fun _ k => XS.iload Xj19.here hx rfl (hb hby at_180) rfl k) ?_
      refine own_st (t' := Tj19.setTop (mkF m 185 #[.val (.int p1), .val (.int p2), .val (.int p3), .val (.int p4), .val (.ref b1), .val (.int v0), .val (.int v1), .val (.int v2), .val (.int v3), .val (.int fr), .val (.int to), .val (.int got), .val (.int an), .val (.int (1 : Int32)), .unset] [])) (fun _ k => XS.icmpNo Xj19.here hx rfl (hb hby at_182) rfl (teq (rfl : v1 = v1)).2 k) ?_
      refine own_st (t' := Tj19.setTop (mkF m 187 #[.val (.int p1), .val (.int p2), .val (.int p3), .val (.int p4), .val (.ref b1), .val (.int v0), .val (.int v1), .val (.int v2), .val (.int v3), .val (.int fr), .val (.int to), .val (.int got), .val (.int an), .val (.int (1 : Int32)), .unset] [(.ref b1)])) (fun _ k => XS.aload Xj19.here hx rfl (hb hby at_185) rfl rfl k) ?_
      refine own_st (t' := Tj19.setTop (mkF m 188 #[.val (.int p1), .val (.int p2), .val (.int p3), .val (.int p4), .val (.ref b1), .val (.int v0), .val (.int v1), .val (.int v2), .val (.int v3), .val (.int fr), .val (.int to), .val (.int got), .val (.int an), .val (.int (1 : Int32)), .unset] [(.int (2 : Int32)), (.ref b1)])) (fun _ k => XS.iconst Xj19.here hx rfl (hb hby at_187) k) ?_
      obtain ⟨cl_23, Ar_23, qa_23, Sa_23, Ma_23, Ha_23, Ga_23⟩ := id V13
      have hin_23 : ¬ ((2 : Int32) < 0 ∨ cl_23.slots.size ≤ ((2 : Int32)).toNatClampNeg) := inb_of Sa_23 ⟨by decide, by decide⟩
      refine own_st (t' := Tj19.setTop (mkF m 189 #[.val (.int p1), .val (.int p2), .val (.int p3), .val (.int p4), .val (.ref b1), .val (.int v0), .val (.int v1), .val (.int v2), .val (.int v3), .val (.int fr), .val (.int to), .val (.int got), .val (.int an), .val (.int (1 : Int32)), .unset] [(.int v2)])) (fun _ k => Xj19.baloadBytes hx (j := (2 : Int32)) (v := (.int v2)) (by rw [ej19]; exact Ar_23.1) (State.isArrayOf_alike hZ.alike Ar_23.2.1) Ar_23.2.2 hin_23 (Has.at Ha_23 hin_23 rfl) (g := (mkF m 188 #[.val (.int p1), .val (.int p2), .val (.int p3), .val (.int p4), .val (.ref b1), .val (.int v0), .val (.int v1), .val (.int v2), .val (.int v3), .val (.int fr), .val (.int to), .val (.int got), .val (.int an), .val (.int (1 : Int32)), .unset] [(.int (2 : Int32)), (.ref b1)])) rfl rfl (hb hby at_188) _ k) ?_
      refine own_st (t' := Tj19.setTop (mkF m 191 #[.val (.int p1), .val (.int p2), .val (.int p3), .val (.int p4), .val (.ref b1), .val (.int v0), .val (.int v1), .val (.int v2), .val (.int v3), .val (.int fr), .val (.int to), .val (.int got), .val (.int an), .val (.int (1 : Int32)), .unset] [(.int v2), (.int v2)])) (fun _ k => XS.iload Xj19.here hx rfl (hb hby at_189) rfl k) ?_
      refine own_st (t' := Tj19.setTop (mkF m 194 #[.val (.int p1), .val (.int p2), .val (.int p3), .val (.int p4), .val (.ref b1), .val (.int v0), .val (.int v1), .val (.int v2), .val (.int v3), .val (.int fr), .val (.int to), .val (.int got), .val (.int an), .val (.int (1 : Int32)), .unset] [])) (fun _ k => XS.icmpNo Xj19.here hx rfl (hb hby at_191) rfl (teq (rfl : v2 = v2)).2 k) ?_
      refine own_st (t' := Tj19.setTop (mkF m 196 #[.val (.int p1), .val (.int p2), .val (.int p3), .val (.int p4), .val (.ref b1), .val (.int v0), .val (.int v1), .val (.int v2), .val (.int v3), .val (.int fr), .val (.int to), .val (.int got), .val (.int an), .val (.int (1 : Int32)), .unset] [(.ref b1)])) (fun _ k => XS.aload Xj19.here hx rfl (hb hby at_194) rfl rfl k) ?_
      refine own_st (t' := Tj19.setTop (mkF m 197 #[.val (.int p1), .val (.int p2), .val (.int p3), .val (.int p4), .val (.ref b1), .val (.int v0), .val (.int v1), .val (.int v2), .val (.int v3), .val (.int fr), .val (.int to), .val (.int got), .val (.int an), .val (.int (1 : Int32)), .unset] [(.int (3 : Int32)), (.ref b1)])) (fun _ k => XS.iconst Xj19.here hx rfl (hb hby at_196) k) ?_
      obtain ⟨cl_24, Ar_24, qa_24, Sa_24, Ma_24, Ha_24, Ga_24⟩ := id V13
      have hin_24 : ¬ ((3 : Int32) < 0 ∨ cl_24.slots.size ≤ ((3 : Int32)).toNatClampNeg) := inb_of Sa_24 ⟨by decide, by decide⟩
      refine own_st (t' := Tj19.setTop (mkF m 198 #[.val (.int p1), .val (.int p2), .val (.int p3), .val (.int p4), .val (.ref b1), .val (.int v0), .val (.int v1), .val (.int v2), .val (.int v3), .val (.int fr), .val (.int to), .val (.int got), .val (.int an), .val (.int (1 : Int32)), .unset] [(.int v3)])) (fun _ k => Xj19.baloadBytes hx (j := (3 : Int32)) (v := (.int v3)) (by rw [ej19]; exact Ar_24.1) (State.isArrayOf_alike hZ.alike Ar_24.2.1) Ar_24.2.2 hin_24 (Has.at Ha_24 hin_24 rfl) (g := (mkF m 197 #[.val (.int p1), .val (.int p2), .val (.int p3), .val (.int p4), .val (.ref b1), .val (.int v0), .val (.int v1), .val (.int v2), .val (.int v3), .val (.int fr), .val (.int to), .val (.int got), .val (.int an), .val (.int (1 : Int32)), .unset] [(.int (3 : Int32)), (.ref b1)])) rfl rfl (hb hby at_197) _ k) ?_
      refine own_st (t' := Tj19.setTop (mkF m 200 #[.val (.int p1), .val (.int p2), .val (.int p3), .val (.int p4), .val (.ref b1), .val (.int v0), .val (.int v1), .val (.int v2), .val (.int v3), .val (.int fr), .val (.int to), .val (.int got), .val (.int an), .val (.int (1 : Int32)), .unset] [(.int v3), (.int v3)])) (fun _ k => XS.iload Xj19.here hx rfl (hb hby at_198) rfl k) ?_
      refine own_st (t' := Tj19.setTop (mkF m 203 #[.val (.int p1), .val (.int p2), .val (.int p3), .val (.int p4), .val (.ref b1), .val (.int v0), .val (.int v1), .val (.int v2), .val (.int v3), .val (.int fr), .val (.int to), .val (.int got), .val (.int an), .val (.int (1 : Int32)), .unset] [])) (fun _ k => XS.icmpNo Xj19.here hx rfl (hb hby at_200) rfl (teq (rfl : v3 = v3)).2 k) ?_
      refine own_st (t' := Tj19.setTop (mkF m 204 #[.val (.int p1), .val (.int p2), .val (.int p3), .val (.int p4), .val (.ref b1), .val (.int v0), .val (.int v1), .val (.int v2), .val (.int v3), .val (.int fr), .val (.int to), .val (.int got), .val (.int an), .val (.int (1 : Int32)), .unset] [(.int (1 : Int32))])) (fun _ k => XS.iconst Xj19.here hx rfl (hb hby at_203) k) ?_
      refine own_st (t' := Tj19.setTop (mkF m 208 #[.val (.int p1), .val (.int p2), .val (.int p3), .val (.int p4), .val (.ref b1), .val (.int v0), .val (.int v1), .val (.int v2), .val (.int v3), .val (.int fr), .val (.int to), .val (.int got), .val (.int an), .val (.int (1 : Int32)), .unset] [(.int (1 : Int32))])) (fun _ k => XS.goto Xj19.here hx rfl (pc0 := 204) (pc' := 208) rfl (hb hby at_204) (by decide) (by decide) k) ?_
      refine own_st (t' := Tj19.setTop (mkF m 210 #[.val (.int p1), .val (.int p2), .val (.int p3), .val (.int p4), .val (.ref b1), .val (.int v0), .val (.int v1), .val (.int v2), .val (.int v3), .val (.int fr), .val (.int to), .val (.int got), .val (.int an), .val (.int (1 : Int32)), .val (.int (1 : Int32))] [])) (fun _ k => XS.istore Xj19.here hx rfl (hb hby at_208) rfl (l' := #[.val (.int p1), .val (.int p2), .val (.int p3), .val (.int p4), .val (.ref b1), .val (.int v0), .val (.int v1), .val (.int v2), .val (.int v3), .val (.int fr), .val (.int to), .val (.int got), .val (.int an), .val (.int (1 : Int32)), .val (.int (1 : Int32))]) rfl k) ?_
      refine own_st (t' := Tj19.setTop (mkF m 212 #[.val (.int p1), .val (.int p2), .val (.int p3), .val (.int p4), .val (.ref b1), .val (.int v0), .val (.int v1), .val (.int v2), .val (.int v3), .val (.int fr), .val (.int to), .val (.int got), .val (.int an), .val (.int (1 : Int32)), .val (.int (1 : Int32))] [(.int got)])) (fun _ k => XS.iload Xj19.here hx rfl (hb hby at_210) rfl k) ?_
      refine own_st (t' := Tj19.setTop (mkF m 214 #[.val (.int p1), .val (.int p2), .val (.int p3), .val (.int p4), .val (.ref b1), .val (.int v0), .val (.int v1), .val (.int v2), .val (.int v3), .val (.int fr), .val (.int to), .val (.int got), .val (.int an), .val (.int (1 : Int32)), .val (.int (1 : Int32))] [(.int (1 : Int32)), (.int got)])) (fun _ k => XS.iload Xj19.here hx rfl (hb hby at_212) rfl k) ?_
      refine own_st (t' := Tj19.setTop (mkF m 217 #[.val (.int p1), .val (.int p2), .val (.int p3), .val (.int p4), .val (.ref b1), .val (.int v0), .val (.int v1), .val (.int v2), .val (.int v3), .val (.int fr), .val (.int to), .val (.int got), .val (.int an), .val (.int (1 : Int32)), .val (.int (1 : Int32))] [])) (fun _ k => XS.icmpNo Xj19.here hx rfl (hb hby at_214) rfl (teq (own_fin1 hfr hto g_got hz_an c157_20)).2 k) ?_
      refine own_st (t' := Tj19.setTop (mkF m 219 #[.val (.int p1), .val (.int p2), .val (.int p3), .val (.int p4), .val (.ref b1), .val (.int v0), .val (.int v1), .val (.int v2), .val (.int v3), .val (.int fr), .val (.int to), .val (.int got), .val (.int an), .val (.int (1 : Int32)), .val (.int (1 : Int32))] [(.int (1 : Int32))])) (fun _ k => XS.iload Xj19.here hx rfl (hb hby at_217) rfl k) ?_
      refine own_st (t' := Tj19.setTop (mkF m 222 #[.val (.int p1), .val (.int p2), .val (.int p3), .val (.int p4), .val (.ref b1), .val (.int v0), .val (.int v1), .val (.int v2), .val (.int v3), .val (.int fr), .val (.int to), .val (.int got), .val (.int an), .val (.int (1 : Int32)), .val (.int (1 : Int32))] [])) (fun _ k => XS.ifNo Xj19.here hx rfl (hb hby at_219) rfl ((if0 _ _).trans (feq (by decide : ¬ ((1 : Int32) = (0 : Int32)))).1) k) ?_
      refine own_st (t' := Tj19.setTop (mkF m 223 #[.val (.int p1), .val (.int p2), .val (.int p3), .val (.int p4), .val (.ref b1), .val (.int v0), .val (.int v1), .val (.int v2), .val (.int v3), .val (.int fr), .val (.int to), .val (.int got), .val (.int an), .val (.int (1 : Int32)), .val (.int (1 : Int32))] [(.int (1 : Int32))])) (fun _ k => XS.iconst Xj19.here hx rfl (hb hby at_222) k) ?_
      refine own_st (t' := Tj19.setTop (mkF m 227 #[.val (.int p1), .val (.int p2), .val (.int p3), .val (.int p4), .val (.ref b1), .val (.int v0), .val (.int v1), .val (.int v2), .val (.int v3), .val (.int fr), .val (.int to), .val (.int got), .val (.int an), .val (.int (1 : Int32)), .val (.int (1 : Int32))] [(.int (1 : Int32))])) (fun _ k => XS.goto Xj19.here hx rfl (pc0 := 223) (pc' := 227) rfl (hb hby at_223) (by decide) (by decide) k) ?_
      have hv25 : (1 : Int32) = (1 : Int32) := rfl
      obtain ⟨fs, hr, hrun, hended, hW, hsame⟩ := Xj19.leave (v := some (.int (1 : Int32))) (fun h => by rw [Bd.returns] at h; cases h)
      exact ⟨_, _, retN Xj19 hx (t := .boolean) Bd.returns (by simp) (hb hby at_227) hr, hrun, hended, hP _ _ ⟨_, _, rfl, ⟨(congrArg (fun z => some (Value.int z)) hv25), Nj19⟩, ⟨_, rfl⟩, hW, hsame.mono (by decide) (by decide)⟩⟩
    · refine own_st (t' := Tj19.setTop (mkF m 164 #[.val (.int p1), .val (.int p2), .val (.int p3), .val (.int p4), .val (.ref b1), .val (.int v0), .val (.int v1), .val (.int v2), .val (.int v3), .val (.int fr), .val (.int to), .val (.int got), .val (.int an), .unset, .unset] [])) (fun _ k => XS.ifYes Xj19.here hx rfl (pc0 := 157) (pc' := 164) rfl (hb hby at_157) rfl ((if0 _ _).trans (feq c157_20).2) (by decide) (by decide) k) ?_
      refine own_st (t' := Tj19.setTop (mkF m 165 #[.val (.int p1), .val (.int p2), .val (.int p3), .val (.int p4), .val (.ref b1), .val (.int v0), .val (.int v1), .val (.int v2), .val (.int v3), .val (.int fr), .val (.int to), .val (.int got), .val (.int an), .unset, .unset] [(.int (0 : Int32))])) (fun _ k => XS.iconst Xj19.here hx rfl (hb hby at_164) k) ?_
      refine own_st (t' := Tj19.setTop (mkF m 167 #[.val (.int p1), .val (.int p2), .val (.int p3), .val (.int p4), .val (.ref b1), .val (.int v0), .val (.int v1), .val (.int v2), .val (.int v3), .val (.int fr), .val (.int to), .val (.int got), .val (.int an), .val (.int (0 : Int32)), .unset] [])) (fun _ k => XS.istore Xj19.here hx rfl (hb hby at_165) rfl (l' := #[.val (.int p1), .val (.int p2), .val (.int p3), .val (.int p4), .val (.ref b1), .val (.int v0), .val (.int v1), .val (.int v2), .val (.int v3), .val (.int fr), .val (.int to), .val (.int got), .val (.int an), .val (.int (0 : Int32)), .unset]) rfl k) ?_
      refine own_st (t' := Tj19.setTop (mkF m 169 #[.val (.int p1), .val (.int p2), .val (.int p3), .val (.int p4), .val (.ref b1), .val (.int v0), .val (.int v1), .val (.int v2), .val (.int v3), .val (.int fr), .val (.int to), .val (.int got), .val (.int an), .val (.int (0 : Int32)), .unset] [(.ref b1)])) (fun _ k => XS.aload Xj19.here hx rfl (hb hby at_167) rfl rfl k) ?_
      refine own_st (t' := Tj19.setTop (mkF m 170 #[.val (.int p1), .val (.int p2), .val (.int p3), .val (.int p4), .val (.ref b1), .val (.int v0), .val (.int v1), .val (.int v2), .val (.int v3), .val (.int fr), .val (.int to), .val (.int got), .val (.int an), .val (.int (0 : Int32)), .unset] [(.int (0 : Int32)), (.ref b1)])) (fun _ k => XS.iconst Xj19.here hx rfl (hb hby at_169) k) ?_
      obtain ⟨cl_26, Ar_26, qa_26, Sa_26, Ma_26, Ha_26, Ga_26⟩ := id V13
      have hin_26 : ¬ ((0 : Int32) < 0 ∨ cl_26.slots.size ≤ ((0 : Int32)).toNatClampNeg) := inb_of Sa_26 ⟨by decide, by decide⟩
      refine own_st (t' := Tj19.setTop (mkF m 171 #[.val (.int p1), .val (.int p2), .val (.int p3), .val (.int p4), .val (.ref b1), .val (.int v0), .val (.int v1), .val (.int v2), .val (.int v3), .val (.int fr), .val (.int to), .val (.int got), .val (.int an), .val (.int (0 : Int32)), .unset] [(.int v0)])) (fun _ k => Xj19.baloadBytes hx (j := (0 : Int32)) (v := (.int v0)) (by rw [ej19]; exact Ar_26.1) (State.isArrayOf_alike hZ.alike Ar_26.2.1) Ar_26.2.2 hin_26 (Has.at Ha_26 hin_26 rfl) (g := (mkF m 170 #[.val (.int p1), .val (.int p2), .val (.int p3), .val (.int p4), .val (.ref b1), .val (.int v0), .val (.int v1), .val (.int v2), .val (.int v3), .val (.int fr), .val (.int to), .val (.int got), .val (.int an), .val (.int (0 : Int32)), .unset] [(.int (0 : Int32)), (.ref b1)])) rfl rfl (hb hby at_170) _ k) ?_
      refine own_st (t' := Tj19.setTop (mkF m 173 #[.val (.int p1), .val (.int p2), .val (.int p3), .val (.int p4), .val (.ref b1), .val (.int v0), .val (.int v1), .val (.int v2), .val (.int v3), .val (.int fr), .val (.int to), .val (.int got), .val (.int an), .val (.int (0 : Int32)), .unset] [(.int v0), (.int v0)])) (fun _ k => XS.iload Xj19.here hx rfl (hb hby at_171) rfl k) ?_
      refine own_st (t' := Tj19.setTop (mkF m 176 #[.val (.int p1), .val (.int p2), .val (.int p3), .val (.int p4), .val (.ref b1), .val (.int v0), .val (.int v1), .val (.int v2), .val (.int v3), .val (.int fr), .val (.int to), .val (.int got), .val (.int an), .val (.int (0 : Int32)), .unset] [])) (fun _ k => XS.icmpNo Xj19.here hx rfl (hb hby at_173) rfl (teq (rfl : v0 = v0)).2 k) ?_
      refine own_st (t' := Tj19.setTop (mkF m 178 #[.val (.int p1), .val (.int p2), .val (.int p3), .val (.int p4), .val (.ref b1), .val (.int v0), .val (.int v1), .val (.int v2), .val (.int v3), .val (.int fr), .val (.int to), .val (.int got), .val (.int an), .val (.int (0 : Int32)), .unset] [(.ref b1)])) (fun _ k => XS.aload Xj19.here hx rfl (hb hby at_176) rfl rfl k) ?_
      refine own_st (t' := Tj19.setTop (mkF m 179 #[.val (.int p1), .val (.int p2), .val (.int p3), .val (.int p4), .val (.ref b1), .val (.int v0), .val (.int v1), .val (.int v2), .val (.int v3), .val (.int fr), .val (.int to), .val (.int got), .val (.int an), .val (.int (0 : Int32)), .unset] [(.int (1 : Int32)), (.ref b1)])) (fun _ k => XS.iconst Xj19.here hx rfl (hb hby at_178) k) ?_
      obtain ⟨cl_27, Ar_27, qa_27, Sa_27, Ma_27, Ha_27, Ga_27⟩ := id V13
      have hin_27 : ¬ ((1 : Int32) < 0 ∨ cl_27.slots.size ≤ ((1 : Int32)).toNatClampNeg) := inb_of Sa_27 ⟨by decide, by decide⟩
      refine own_st (t' := Tj19.setTop (mkF m 180 #[.val (.int p1), .val (.int p2), .val (.int p3), .val (.int p4), .val (.ref b1), .val (.int v0), .val (.int v1), .val (.int v2), .val (.int v3), .val (.int fr), .val (.int to), .val (.int got), .val (.int an), .val (.int (0 : Int32)), .unset] [(.int v1)])) (fun _ k => Xj19.baloadBytes hx (j := (1 : Int32)) (v := (.int v1)) (by rw [ej19]; exact Ar_27.1) (State.isArrayOf_alike hZ.alike Ar_27.2.1) Ar_27.2.2 hin_27 (Has.at Ha_27 hin_27 rfl) (g := (mkF m 179 #[.val (.int p1), .val (.int p2), .val (.int p3), .val (.int p4), .val (.ref b1), .val (.int v0), .val (.int v1), .val (.int v2), .val (.int v3), .val (.int fr), .val (.int to), .val (.int got), .val (.int an), .val (.int (0 : Int32)), .unset] [(.int (1 : Int32)), (.ref b1)])) rfl rfl (hb hby at_179) _ k) ?_
      refine own_st (t' := Tj19.setTop (mkF m 182 #[.val (.int p1), .val (.int p2), .val (.int p3), .val (.int p4), .val (.ref b1), .val (.int v0), .val (.int v1), .val (.int v2), .val (.int v3), .val (.int fr), .val (.int to), .val (.int got), .val (.int an), .val (.int (0 : Int32)), .unset] [(.int v1), (.int v1)])) (fun _ k => XS.iload Xj19.here hx rfl (hb hby at_180) rfl k) ?_
      refine own_st (t' := Tj19.setTop (mkF m 185 #[.val (.int p1), .val (.int p2), .val (.int p3), .val (.int p4), .val (.ref b1), .val (.int v0), .val (.int v1), .val (.int v2), .val (.int v3), .val (.int fr), .val (.int to), .val (.int got), .val (.int an), .val (.int (0 : Int32)), .unset] [])) (fun _ k => XS.icmpNo Xj19.here hx rfl (hb hby at_182) rfl (teq (rfl : v1 = v1)).2 k) ?_
      refine own_st (t' := Tj19.setTop (mkF m 187 #[.val (.int p1), .val (.int p2), .val (.int p3), .val (.int p4), .val (.ref b1), .val (.int v0), .val (.int v1), .val (.int v2), .val (.int v3), .val (.int fr), .val (.int to), .val (.int got), .val (.int an), .val (.int (0 : Int32)), .unset] [(.ref b1)])) (fun _ k => XS.aload Xj19.here hx rfl (hb hby at_185) rfl rfl k) ?_
      refine own_st (t' := Tj19.setTop (mkF m 188 #[.val (.int p1), .val (.int p2), .val (.int p3), .val (.int p4), .val (.ref b1), .val (.int v0), .val (.int v1), .val (.int v2), .val (.int v3), .val (.int fr), .val (.int to), .val (.int got), .val (.int an), .val (.int (0 : Int32)), .unset] [(.int (2 : Int32)), (.ref b1)])) (fun _ k => XS.iconst Xj19.here hx rfl (hb hby at_187) k) ?_
      obtain ⟨cl_28, Ar_28, qa_28, Sa_28, Ma_28, Ha_28, Ga_28⟩ := id V13
      have hin_28 : ¬ ((2 : Int32) < 0 ∨ cl_28.slots.size ≤ ((2 : Int32)).toNatClampNeg) := inb_of Sa_28 ⟨by decide, by decide⟩
      refine own_st (t' := Tj19.setTop (mkF m 189 #[.val (.int p1), .val (.int p2), .val (.int p3), .val (.int p4), .val (.ref b1), .val (.int v0), .val (.int v1), .val (.int v2), .val (.int v3), .val (.int fr), .val (.int to), .val (.int got), .val (.int an), .val (.int (0 : Int32)), .unset] [(.int v2)])) (fun _ k => Xj19.baloadBytes hx (j := (2 : Int32)) (v := (.int v2)) (by rw [ej19]; exact Ar_28.1) (State.isArrayOf_alike hZ.alike Ar_28.2.1) Ar_28.2.2 hin_28 (Has.at Ha_28 hin_28 rfl) (g := (mkF m 188 #[.val (.int p1), .val (.int p2), .val (.int p3), .val (.int p4), .val (.ref b1), .val (.int v0), .val (.int v1), .val (.int v2), .val (.int v3), .val (.int fr), .val (.int to), .val (.int got), .val (.int an), .val (.int (0 : Int32)), .unset] [(.int (2 : Int32)), (.ref b1)])) rfl rfl (hb hby at_188) _ k) ?_
      refine own_st (t' := Tj19.setTop (mkF m 191 #[.val (.int p1), .val (.int p2), .val (.int p3), .val (.int p4), .val (.ref b1), .val (.int v0), .val (.int v1), .val (.int v2), .val (.int v3), .val (.int fr), .val (.int to), .val (.int got), .val (.int an), .val (.int (0 : Int32)), .unset] [(.int v2), (.int v2)])) (fun _ k => XS.iload Xj19.here hx rfl (hb hby at_189) rfl k) ?_
      refine own_st (t' := Tj19.setTop (mkF m 194 #[.val (.int p1), .val (.int p2), .val (.int p3), .val (.int p4), .val (.ref b1), .val (.int v0), .val (.int v1), .val (.int v2), .val (.int v3), .val (.int fr), .val (.int to), .val (.int got), .val (.int an), .val (.int (0 : Int32)), .unset] [])) (fun _ k => XS.icmpNo Xj19.here hx rfl (hb hby at_191) rfl (teq (rfl : v2 = v2)).2 k) ?_
      refine own_st (t' := Tj19.setTop (mkF m 196 #[.val (.int p1), .val (.int p2), .val (.int p3), .val (.int p4), .val (.ref b1), .val (.int v0), .val (.int v1), .val (.int v2), .val (.int v3), .val (.int fr), .val (.int to), .val (.int got), .val (.int an), .val (.int (0 : Int32)), .unset] [(.ref b1)])) (fun _ k => XS.aload Xj19.here hx rfl (hb hby at_194) rfl rfl k) ?_
      refine own_st (t' := Tj19.setTop (mkF m 197 #[.val (.int p1), .val (.int p2), .val (.int p3), .val (.int p4), .val (.ref b1), .val (.int v0), .val (.int v1), .val (.int v2), .val (.int v3), .val (.int fr), .val (.int to), .val (.int got), .val (.int an), .val (.int (0 : Int32)), .unset] [(.int (3 : Int32)), (.ref b1)])) (fun _ k => XS.iconst Xj19.here hx rfl (hb hby at_196) k) ?_
      obtain ⟨cl_29, Ar_29, qa_29, Sa_29, Ma_29, Ha_29, Ga_29⟩ := id V13
      have hin_29 : ¬ ((3 : Int32) < 0 ∨ cl_29.slots.size ≤ ((3 : Int32)).toNatClampNeg) := inb_of Sa_29 ⟨by decide, by decide⟩
      refine own_st (t' := Tj19.setTop (mkF m 198 #[.val (.int p1), .val (.int p2), .val (.int p3), .val (.int p4), .val (.ref b1), .val (.int v0), .val (.int v1), .val (.int v2), .val (.int v3), .val (.int fr), .val (.int to), .val (.int got), .val (.int an), .val (.int (0 : Int32)), .unset] [(.int v3)])) (fun _ k => Xj19.baloadBytes hx (j := (3 : Int32)) (v := (.int v3)) (by rw [ej19]; exact Ar_29.1) (State.isArrayOf_alike hZ.alike Ar_29.2.1) Ar_29.2.2 hin_29 (Has.at Ha_29 hin_29 rfl) (g := (mkF m 197 #[.val (.int p1), .val (.int p2), .val (.int p3), .val (.int p4), .val (.ref b1), .val (.int v0), .val (.int v1), .val (.int v2), .val (.int v3), .val (.int fr), .val (.int to), .val (.int got), .val (.int an), .val (.int (0 : Int32)), .unset] [(.int (3 : Int32)), (.ref b1)])) rfl rfl (hb hby at_197) _ k) ?_
      refine own_st (t' := Tj19.setTop (mkF m 200 #[.val (.int p1), .val (.int p2), .val (.int p3), .val (.int p4), .val (.ref b1), .val (.int v0), .val (.int v1), .val (.int v2), .val (.int v3), .val (.int fr), .val (.int to), .val (.int got), .val (.int an), .val (.int (0 : Int32)), .unset] [(.int v3), (.int v3)])) (fun _ k => XS.iload Xj19.here hx rfl (hb hby at_198) rfl k) ?_
      refine own_st (t' := Tj19.setTop (mkF m 203 #[.val (.int p1), .val (.int p2), .val (.int p3), .val (.int p4), .val (.ref b1), .val (.int v0), .val (.int v1), .val (.int v2), .val (.int v3), .val (.int fr), .val (.int to), .val (.int got), .val (.int an), .val (.int (0 : Int32)), .unset] [])) (fun _ k => XS.icmpNo Xj19.here hx rfl (hb hby at_200) rfl (teq (rfl : v3 = v3)).2 k) ?_
      refine own_st (t' := Tj19.setTop (mkF m 204 #[.val (.int p1), .val (.int p2), .val (.int p3), .val (.int p4), .val (.ref b1), .val (.int v0), .val (.int v1), .val (.int v2), .val (.int v3), .val (.int fr), .val (.int to), .val (.int got), .val (.int an), .val (.int (0 : Int32)), .unset] [(.int (1 : Int32))])) (fun _ k => XS.iconst Xj19.here hx rfl (hb hby at_203) k) ?_
      refine own_st (t' := Tj19.setTop (mkF m 208 #[.val (.int p1), .val (.int p2), .val (.int p3), .val (.int p4), .val (.ref b1), .val (.int v0), .val (.int v1), .val (.int v2), .val (.int v3), .val (.int fr), .val (.int to), .val (.int got), .val (.int an), .val (.int (0 : Int32)), .unset] [(.int (1 : Int32))])) (fun _ k => XS.goto Xj19.here hx rfl (pc0 := 204) (pc' := 208) rfl (hb hby at_204) (by decide) (by decide) k) ?_
      refine own_st (t' := Tj19.setTop (mkF m 210 #[.val (.int p1), .val (.int p2), .val (.int p3), .val (.int p4), .val (.ref b1), .val (.int v0), .val (.int v1), .val (.int v2), .val (.int v3), .val (.int fr), .val (.int to), .val (.int got), .val (.int an), .val (.int (0 : Int32)), .val (.int (1 : Int32))] [])) (fun _ k => XS.istore Xj19.here hx rfl (hb hby at_208) rfl (l' := #[.val (.int p1), .val (.int p2), .val (.int p3), .val (.int p4), .val (.ref b1), .val (.int v0), .val (.int v1), .val (.int v2), .val (.int v3), .val (.int fr), .val (.int to), .val (.int got), .val (.int an), .val (.int (0 : Int32)), .val (.int (1 : Int32))]) rfl k) ?_
      refine own_st (t' := Tj19.setTop (mkF m 212 #[.val (.int p1), .val (.int p2), .val (.int p3), .val (.int p4), .val (.ref b1), .val (.int v0), .val (.int v1), .val (.int v2), .val (.int v3), .val (.int fr), .val (.int to), .val (.int got), .val (.int an), .val (.int (0 : Int32)), .val (.int (1 : Int32))] [(.int got)])) (fun _ k => XS.iload Xj19.here hx rfl (hb hby at_210) rfl k) ?_
      refine own_st (t' := Tj19.setTop (mkF m 214 #[.val (.int p1), .val (.int p2), .val (.int p3), .val (.int p4), .val (.ref b1), .val (.int v0), .val (.int v1), .val (.int v2), .val (.int v3), .val (.int fr), .val (.int to), .val (.int got), .val (.int an), .val (.int (0 : Int32)), .val (.int (1 : Int32))] [(.int (0 : Int32)), (.int got)])) (fun _ k => XS.iload Xj19.here hx rfl (hb hby at_212) rfl k) ?_
      refine own_st (t' := Tj19.setTop (mkF m 217 #[.val (.int p1), .val (.int p2), .val (.int p3), .val (.int p4), .val (.ref b1), .val (.int v0), .val (.int v1), .val (.int v2), .val (.int v3), .val (.int fr), .val (.int to), .val (.int got), .val (.int an), .val (.int (0 : Int32)), .val (.int (1 : Int32))] [])) (fun _ k => XS.icmpNo Xj19.here hx rfl (hb hby at_214) rfl (teq (own_fin0 hfr hto g_got hz_an c157_20)).2 k) ?_
      refine own_st (t' := Tj19.setTop (mkF m 219 #[.val (.int p1), .val (.int p2), .val (.int p3), .val (.int p4), .val (.ref b1), .val (.int v0), .val (.int v1), .val (.int v2), .val (.int v3), .val (.int fr), .val (.int to), .val (.int got), .val (.int an), .val (.int (0 : Int32)), .val (.int (1 : Int32))] [(.int (1 : Int32))])) (fun _ k => XS.iload Xj19.here hx rfl (hb hby at_217) rfl k) ?_
      refine own_st (t' := Tj19.setTop (mkF m 222 #[.val (.int p1), .val (.int p2), .val (.int p3), .val (.int p4), .val (.ref b1), .val (.int v0), .val (.int v1), .val (.int v2), .val (.int v3), .val (.int fr), .val (.int to), .val (.int got), .val (.int an), .val (.int (0 : Int32)), .val (.int (1 : Int32))] [])) (fun _ k => XS.ifNo Xj19.here hx rfl (hb hby at_219) rfl ((if0 _ _).trans (feq (by decide : ¬ ((1 : Int32) = (0 : Int32)))).1) k) ?_
      refine own_st (t' := Tj19.setTop (mkF m 223 #[.val (.int p1), .val (.int p2), .val (.int p3), .val (.int p4), .val (.ref b1), .val (.int v0), .val (.int v1), .val (.int v2), .val (.int v3), .val (.int fr), .val (.int to), .val (.int got), .val (.int an), .val (.int (0 : Int32)), .val (.int (1 : Int32))] [(.int (1 : Int32))])) (fun _ k => XS.iconst Xj19.here hx rfl (hb hby at_222) k) ?_
      refine own_st (t' := Tj19.setTop (mkF m 227 #[.val (.int p1), .val (.int p2), .val (.int p3), .val (.int p4), .val (.ref b1), .val (.int v0), .val (.int v1), .val (.int v2), .val (.int v3), .val (.int fr), .val (.int to), .val (.int got), .val (.int an), .val (.int (0 : Int32)), .val (.int (1 : Int32))] [(.int (1 : Int32))])) (fun _ k => XS.goto Xj19.here hx rfl (pc0 := 223) (pc' := 227) rfl (hb hby at_223) (by decide) (by decide) k) ?_
      have hv30 : (1 : Int32) = (1 : Int32) := rfl
      obtain ⟨fs, hr, hrun, hended, hW, hsame⟩ := Xj19.leave (v := some (.int (1 : Int32))) (fun h => by rw [Bd.returns] at h; cases h)
      exact ⟨_, _, retN Xj19 hx (t := .boolean) Bd.returns (by simp) (hb hby at_227) hr, hrun, hended, hP _ _ ⟨_, _, rfl, ⟨(congrArg (fun z => some (Value.int z)) hv30), Nj19⟩, ⟨_, rfl⟩, hW, hsame.mono (by decide) (by decide)⟩⟩
  refine own_st (t' := T18.setTop (mkF m 98 #[.val (.int p1), .val (.int p2), .val (.int p3), .val (.int p4), .val (.ref b1), .val (.int v0), .val (.int v1), .val (.int v2), .val (.int v3), .val (.int fr), .val (.int to), .val (.int got), .unset, .unset, .unset] [(.ref b1)])) (fun _ k => XS.aload X18.here hx rfl (hb hby at_96) rfl rfl k) ?_
  refine own_st (t' := T18.setTop (mkF m 99 #[.val (.int p1), .val (.int p2), .val (.int p3), .val (.int p4), .val (.ref b1), .val (.int v0), .val (.int v1), .val (.int v2), .val (.int v3), .val (.int fr), .val (.int to), .val (.int got), .unset, .unset, .unset] [(.int (0 : Int32)), (.ref b1)])) (fun _ k => XS.iconst X18.here hx rfl (hb hby at_98) k) ?_
  refine own_st (t' := T18.setTop (mkF m 101 #[.val (.int p1), .val (.int p2), .val (.int p3), .val (.int p4), .val (.ref b1), .val (.int v0), .val (.int v1), .val (.int v2), .val (.int v3), .val (.int fr), .val (.int to), .val (.int got), .unset, .unset, .unset] [(.int fr), (.int (0 : Int32)), (.ref b1)])) (fun _ k => XS.iload X18.here hx rfl (hb hby at_99) rfl k) ?_
  refine own_st (t' := T18.setTop (mkF m 103 #[.val (.int p1), .val (.int p2), .val (.int p3), .val (.int p4), .val (.ref b1), .val (.int v0), .val (.int v1), .val (.int v2), .val (.int v3), .val (.int fr), .val (.int to), .val (.int got), .unset, .unset, .unset] [(.int to), (.int fr), (.int (0 : Int32)), (.ref b1)])) (fun _ k => XS.iload X18.here hx rfl (hb hby at_101) rfl k) ?_
  obtain ⟨_, _, ⟨T31, L31, k31, n31⟩, -, X31, ⟨Lc31, hQ31, l31, y31, z31⟩, st31⟩ := Jvm.LawKit.callS X18 hx (y := (⟨"com/example/hashbook/hashbook/store/RowPagesZerosPinLaw", "nz", "([BIII)Z"⟩ : MethodName)) hown (mvT hZ (hw _ (List.mem_of_getElem? (i := 10) rfl))) (mvT hZ (hw _ (List.mem_of_getElem? (i := 11) rfl))) (mvT hZ (hw _ (List.mem_of_getElem? (i := 3) rfl))) (mvT hZ (hw _ (List.mem_of_getElem? (i := 12) rfl))) (by decide) (backOf (W := 0) (own_rm3 l Z a0 hw [] b1 (0 : Int32) fr to k1 v0 v1 v2 v3 v0 h13 n0 Z13 V13 ⟨by decide, by decide⟩ rfl) hZ (hw _ (List.mem_of_getElem? (i := 12) rfl)) (hw _ (List.mem_of_getElem? (i := 3) rfl)) (by decide) (by decide)) (g := (mkF m 103 #[.val (.int p1), .val (.int p2), .val (.int p3), .val (.int p4), .val (.ref b1), .val (.int v0), .val (.int v1), .val (.int v2), .val (.int v3), .val (.int fr), .val (.int to), .val (.int got), .unset, .unset, .unset] [(.int to), (.int fr), (.int (0 : Int32)), (.ref b1)])) rfl (by rw [hml]; rfl) (argsL := [(.ref b1), (.int (0 : Int32)), (.int fr), (.int to)]) (rest := []) (lenOf own_rm0_pd2 rfl) rfl (by show 2 * 0 + _ ≤ _; exact Nat.le_of_eq rfl) (hb hby at_103) (fun _ _ => ⟨rfl, e18, (by decide : 0 + 1 + 0 + 0 + 0 + 0 + 0 + 0 ≤ _), (by decide : 0 + 4 + 0 + 0 + 0 + 0 + 0 + 0 ≤ _)⟩)
  dsimp only [Pt.U, Pt.locs, Pt.cells, Pt.slots] at X31 l31 y31 z31 st31 hQ31
  subst l31 y31 z31
  obtain ⟨rfl, N31q, e31⟩ := hQ31
  have N31 := Fr.app N18 N31q
  refine own_st (t' := T31.setTop (mkF m 106 #[.val (.int p1), .val (.int p2), .val (.int p3), .val (.int p4), .val (.ref b1), .val (.int v0), .val (.int v1), .val (.int v2), .val (.int v3), .val (.int fr), .val (.int to), .val (.int got), .unset, .unset, .unset] [(.int (own_nz (0 : Int32) fr to v0))])) st31 ?_
  by_cases c106_32 : (own_nz (0 : Int32) fr to v0) = (0 : Int32)
  · refine own_st (t' := T31.setTop (mkF m 109 #[.val (.int p1), .val (.int p2), .val (.int p3), .val (.int p4), .val (.ref b1), .val (.int v0), .val (.int v1), .val (.int v2), .val (.int v3), .val (.int fr), .val (.int to), .val (.int got), .unset, .unset, .unset] [])) (fun _ k => XS.ifNo X31.here hx rfl (hb hby at_106) rfl ((if0 _ _).trans (teq c106_32).2) k) ?_
    refine own_st (t' := T31.setTop (mkF m 111 #[.val (.int p1), .val (.int p2), .val (.int p3), .val (.int p4), .val (.ref b1), .val (.int v0), .val (.int v1), .val (.int v2), .val (.int v3), .val (.int fr), .val (.int to), .val (.int got), .unset, .unset, .unset] [(.ref b1)])) (fun _ k => XS.aload X31.here hx rfl (hb hby at_109) rfl rfl k) ?_
    refine own_st (t' := T31.setTop (mkF m 112 #[.val (.int p1), .val (.int p2), .val (.int p3), .val (.int p4), .val (.ref b1), .val (.int v0), .val (.int v1), .val (.int v2), .val (.int v3), .val (.int fr), .val (.int to), .val (.int got), .unset, .unset, .unset] [(.int (1 : Int32)), (.ref b1)])) (fun _ k => XS.iconst X31.here hx rfl (hb hby at_111) k) ?_
    refine own_st (t' := T31.setTop (mkF m 114 #[.val (.int p1), .val (.int p2), .val (.int p3), .val (.int p4), .val (.ref b1), .val (.int v0), .val (.int v1), .val (.int v2), .val (.int v3), .val (.int fr), .val (.int to), .val (.int got), .unset, .unset, .unset] [(.int fr), (.int (1 : Int32)), (.ref b1)])) (fun _ k => XS.iload X31.here hx rfl (hb hby at_112) rfl k) ?_
    refine own_st (t' := T31.setTop (mkF m 116 #[.val (.int p1), .val (.int p2), .val (.int p3), .val (.int p4), .val (.ref b1), .val (.int v0), .val (.int v1), .val (.int v2), .val (.int v3), .val (.int fr), .val (.int to), .val (.int got), .unset, .unset, .unset] [(.int to), (.int fr), (.int (1 : Int32)), (.ref b1)])) (fun _ k => XS.iload X31.here hx rfl (hb hby at_114) rfl k) ?_
    obtain ⟨_, _, ⟨T33, L33, k33, n33⟩, -, X33, ⟨Lc33, hQ33, l33, y33, z33⟩, st33⟩ := Jvm.LawKit.callS X31 hx (y := (⟨"com/example/hashbook/hashbook/store/RowPagesZerosPinLaw", "nz", "([BIII)Z"⟩ : MethodName)) hown (mvT hZ (hw _ (List.mem_of_getElem? (i := 10) rfl))) (mvT hZ (hw _ (List.mem_of_getElem? (i := 11) rfl))) (mvT hZ (hw _ (List.mem_of_getElem? (i := 3) rfl))) (mvT hZ (hw _ (List.mem_of_getElem? (i := 12) rfl))) (by decide) (backOf (W := 0) (own_rm3 l Z a0 hw [] b1 (1 : Int32) fr to k1 v0 v1 v2 v3 v1 h13 n0 Z13 V13 ⟨by decide, by decide⟩ rfl) hZ (hw _ (List.mem_of_getElem? (i := 12) rfl)) (hw _ (List.mem_of_getElem? (i := 3) rfl)) (by decide) (by decide)) (g := (mkF m 116 #[.val (.int p1), .val (.int p2), .val (.int p3), .val (.int p4), .val (.ref b1), .val (.int v0), .val (.int v1), .val (.int v2), .val (.int v3), .val (.int fr), .val (.int to), .val (.int got), .unset, .unset, .unset] [(.int to), (.int fr), (.int (1 : Int32)), (.ref b1)])) rfl (by rw [hml]; rfl) (argsL := [(.ref b1), (.int (1 : Int32)), (.int fr), (.int to)]) (rest := []) (lenOf own_rm0_pd2 rfl) rfl (by show 2 * 0 + _ ≤ _; exact Nat.le_of_eq rfl) (hb hby at_116) (fun _ _ => ⟨rfl, e31, (by decide : 0 + 1 + 0 + 0 + 0 + 0 + 0 + 0 + 0 ≤ _), (by decide : 0 + 4 + 0 + 0 + 0 + 0 + 0 + 0 + 0 ≤ _)⟩)
    dsimp only [Pt.U, Pt.locs, Pt.cells, Pt.slots] at X33 l33 y33 z33 st33 hQ33
    subst l33 y33 z33
    obtain ⟨rfl, N33q, e33⟩ := hQ33
    have N33 := Fr.app N31 N33q
    refine own_st (t' := T33.setTop (mkF m 119 #[.val (.int p1), .val (.int p2), .val (.int p3), .val (.int p4), .val (.ref b1), .val (.int v0), .val (.int v1), .val (.int v2), .val (.int v3), .val (.int fr), .val (.int to), .val (.int got), .unset, .unset, .unset] [(.int (own_nz (1 : Int32) fr to v1))])) st33 ?_
    by_cases c119_34 : (own_nz (1 : Int32) fr to v1) = (0 : Int32)
    · refine own_st (t' := T33.setTop (mkF m 122 #[.val (.int p1), .val (.int p2), .val (.int p3), .val (.int p4), .val (.ref b1), .val (.int v0), .val (.int v1), .val (.int v2), .val (.int v3), .val (.int fr), .val (.int to), .val (.int got), .unset, .unset, .unset] [])) (fun _ k => XS.ifNo X33.here hx rfl (hb hby at_119) rfl ((if0 _ _).trans (teq c119_34).2) k) ?_
      refine own_st (t' := T33.setTop (mkF m 124 #[.val (.int p1), .val (.int p2), .val (.int p3), .val (.int p4), .val (.ref b1), .val (.int v0), .val (.int v1), .val (.int v2), .val (.int v3), .val (.int fr), .val (.int to), .val (.int got), .unset, .unset, .unset] [(.ref b1)])) (fun _ k => XS.aload X33.here hx rfl (hb hby at_122) rfl rfl k) ?_
      refine own_st (t' := T33.setTop (mkF m 125 #[.val (.int p1), .val (.int p2), .val (.int p3), .val (.int p4), .val (.ref b1), .val (.int v0), .val (.int v1), .val (.int v2), .val (.int v3), .val (.int fr), .val (.int to), .val (.int got), .unset, .unset, .unset] [(.int (2 : Int32)), (.ref b1)])) (fun _ k => XS.iconst X33.here hx rfl (hb hby at_124) k) ?_
      refine own_st (t' := T33.setTop (mkF m 127 #[.val (.int p1), .val (.int p2), .val (.int p3), .val (.int p4), .val (.ref b1), .val (.int v0), .val (.int v1), .val (.int v2), .val (.int v3), .val (.int fr), .val (.int to), .val (.int got), .unset, .unset, .unset] [(.int fr), (.int (2 : Int32)), (.ref b1)])) (fun _ k => XS.iload X33.here hx rfl (hb hby at_125) rfl k) ?_
      refine own_st (t' := T33.setTop (mkF m 129 #[.val (.int p1), .val (.int p2), .val (.int p3), .val (.int p4), .val (.ref b1), .val (.int v0), .val (.int v1), .val (.int v2), .val (.int v3), .val (.int fr), .val (.int to), .val (.int got), .unset, .unset, .unset] [(.int to), (.int fr), (.int (2 : Int32)), (.ref b1)])) (fun _ k => XS.iload X33.here hx rfl (hb hby at_127) rfl k) ?_
      obtain ⟨_, _, ⟨T35, L35, k35, n35⟩, -, X35, ⟨Lc35, hQ35, l35, y35, z35⟩, st35⟩ := Jvm.LawKit.callS X33 hx (y := (⟨"com/example/hashbook/hashbook/store/RowPagesZerosPinLaw", "nz", "([BIII)Z"⟩ : MethodName)) hown (mvT hZ (hw _ (List.mem_of_getElem? (i := 10) rfl))) (mvT hZ (hw _ (List.mem_of_getElem? (i := 11) rfl))) (mvT hZ (hw _ (List.mem_of_getElem? (i := 3) rfl))) (mvT hZ (hw _ (List.mem_of_getElem? (i := 12) rfl))) (by decide) (backOf (W := 0) (own_rm3 l Z a0 hw [] b1 (2 : Int32) fr to k1 v0 v1 v2 v3 v2 h13 n0 Z13 V13 ⟨by decide, by decide⟩ rfl) hZ (hw _ (List.mem_of_getElem? (i := 12) rfl)) (hw _ (List.mem_of_getElem? (i := 3) rfl)) (by decide) (by decide)) (g := (mkF m 129 #[.val (.int p1), .val (.int p2), .val (.int p3), .val (.int p4), .val (.ref b1), .val (.int v0), .val (.int v1), .val (.int v2), .val (.int v3), .val (.int fr), .val (.int to), .val (.int got), .unset, .unset, .unset] [(.int to), (.int fr), (.int (2 : Int32)), (.ref b1)])) rfl (by rw [hml]; rfl) (argsL := [(.ref b1), (.int (2 : Int32)), (.int fr), (.int to)]) (rest := []) (lenOf own_rm0_pd2 rfl) rfl (by show 2 * 0 + _ ≤ _; exact Nat.le_of_eq rfl) (hb hby at_129) (fun _ _ => ⟨rfl, e33, (by decide : 0 + 1 + 0 + 0 + 0 + 0 + 0 + 0 + 0 + 0 ≤ _), (by decide : 0 + 4 + 0 + 0 + 0 + 0 + 0 + 0 + 0 + 0 ≤ _)⟩)
      dsimp only [Pt.U, Pt.locs, Pt.cells, Pt.slots] at X35 l35 y35 z35 st35 hQ35
      subst l35 y35 z35
      obtain ⟨rfl, N35q, e35⟩ := hQ35
      have N35 := Fr.app N33 N35q
      refine own_st (t' := T35.setTop (mkF m 132 #[.val (.int p1), .val (.int p2), .val (.int p3), .val (.int p4), .val (.ref b1), .val (.int v0), .val (.int v1), .val (.int v2), .val (.int v3), .val (.int fr), .val (.int to), .val (.int got), .unset, .unset, .unset] [(.int (own_nz (2 : Int32) fr to v2))])) st35 ?_
      by_cases c132_36 : (own_nz (2 : Int32) fr to v2) = (0 : Int32)
      · refine own_st (t' := T35.setTop (mkF m 135 #[.val (.int p1), .val (.int p2), .val (.int p3), .val (.int p4), .val (.ref b1), .val (.int v0), .val (.int v1), .val (.int v2), .val (.int v3), .val (.int fr), .val (.int to), .val (.int got), .unset, .unset, .unset] [])) (fun _ k => XS.ifNo X35.here hx rfl (hb hby at_132) rfl ((if0 _ _).trans (teq c132_36).2) k) ?_
        refine own_st (t' := T35.setTop (mkF m 137 #[.val (.int p1), .val (.int p2), .val (.int p3), .val (.int p4), .val (.ref b1), .val (.int v0), .val (.int v1), .val (.int v2), .val (.int v3), .val (.int fr), .val (.int to), .val (.int got), .unset, .unset, .unset] [(.ref b1)])) (fun _ k => XS.aload X35.here hx rfl (hb hby at_135) rfl rfl k) ?_
        refine own_st (t' := T35.setTop (mkF m 138 #[.val (.int p1), .val (.int p2), .val (.int p3), .val (.int p4), .val (.ref b1), .val (.int v0), .val (.int v1), .val (.int v2), .val (.int v3), .val (.int fr), .val (.int to), .val (.int got), .unset, .unset, .unset] [(.int (3 : Int32)), (.ref b1)])) (fun _ k => XS.iconst X35.here hx rfl (hb hby at_137) k) ?_
        refine own_st (t' := T35.setTop (mkF m 140 #[.val (.int p1), .val (.int p2), .val (.int p3), .val (.int p4), .val (.ref b1), .val (.int v0), .val (.int v1), .val (.int v2), .val (.int v3), .val (.int fr), .val (.int to), .val (.int got), .unset, .unset, .unset] [(.int fr), (.int (3 : Int32)), (.ref b1)])) (fun _ k => XS.iload X35.here hx rfl (hb hby at_138) rfl k) ?_
        refine own_st (t' := T35.setTop (mkF m 142 #[.val (.int p1), .val (.int p2), .val (.int p3), .val (.int p4), .val (.ref b1), .val (.int v0), .val (.int v1), .val (.int v2), .val (.int v3), .val (.int fr), .val (.int to), .val (.int got), .unset, .unset, .unset] [(.int to), (.int fr), (.int (3 : Int32)), (.ref b1)])) (fun _ k => XS.iload X35.here hx rfl (hb hby at_140) rfl k) ?_
        obtain ⟨_, _, ⟨T37, L37, k37, n37⟩, -, X37, ⟨Lc37, hQ37, l37, y37, z37⟩, st37⟩ := Jvm.LawKit.callS X35 hx (y := (⟨"com/example/hashbook/hashbook/store/RowPagesZerosPinLaw", "nz", "([BIII)Z"⟩ : MethodName)) hown (mvT hZ (hw _ (List.mem_of_getElem? (i := 10) rfl))) (mvT hZ (hw _ (List.mem_of_getElem? (i := 11) rfl))) (mvT hZ (hw _ (List.mem_of_getElem? (i := 3) rfl))) (mvT hZ (hw _ (List.mem_of_getElem? (i := 12) rfl))) (by decide) (backOf (W := 0) (own_rm3 l Z a0 hw [] b1 (3 : Int32) fr to k1 v0 v1 v2 v3 v3 h13 n0 Z13 V13 ⟨by decide, by decide⟩ rfl) hZ (hw _ (List.mem_of_getElem? (i := 12) rfl)) (hw _ (List.mem_of_getElem? (i := 3) rfl)) (by decide) (by decide)) (g := (mkF m 142 #[.val (.int p1), .val (.int p2), .val (.int p3), .val (.int p4), .val (.ref b1), .val (.int v0), .val (.int v1), .val (.int v2), .val (.int v3), .val (.int fr), .val (.int to), .val (.int got), .unset, .unset, .unset] [(.int to), (.int fr), (.int (3 : Int32)), (.ref b1)])) rfl (by rw [hml]; rfl) (argsL := [(.ref b1), (.int (3 : Int32)), (.int fr), (.int to)]) (rest := []) (lenOf own_rm0_pd2 rfl) rfl (by show 2 * 0 + _ ≤ _; exact Nat.le_of_eq rfl) (hb hby at_142) (fun _ _ => ⟨rfl, e35, (by decide : 0 + 1 + 0 + 0 + 0 + 0 + 0 + 0 + 0 + 0 + 0 ≤ _), (by decide : 0 + 4 + 0 + 0 + 0 + 0 + 0 + 0 + 0 + 0 + 0 ≤ _)⟩)
        dsimp only [Pt.U, Pt.locs, Pt.cells, Pt.slots] at X37 l37 y37 z37 st37 hQ37
        subst l37 y37 z37
        obtain ⟨rfl, N37q, e37⟩ := hQ37
        have N37 := Fr.app N35 N37q
        refine own_st (t' := T37.setTop (mkF m 145 #[.val (.int p1), .val (.int p2), .val (.int p3), .val (.int p4), .val (.ref b1), .val (.int v0), .val (.int v1), .val (.int v2), .val (.int v3), .val (.int fr), .val (.int to), .val (.int got), .unset, .unset, .unset] [(.int (own_nz (3 : Int32) fr to v3))])) st37 ?_
        by_cases c145_38 : (own_nz (3 : Int32) fr to v3) = (0 : Int32)
        · refine own_st (t' := T37.setTop (mkF m 152 #[.val (.int p1), .val (.int p2), .val (.int p3), .val (.int p4), .val (.ref b1), .val (.int v0), .val (.int v1), .val (.int v2), .val (.int v3), .val (.int fr), .val (.int to), .val (.int got), .unset, .unset, .unset] [])) (fun _ k => XS.ifYes X37.here hx rfl (pc0 := 145) (pc' := 152) rfl (hb hby at_145) rfl ((if0 _ _).trans (teq c145_38).1) (by decide) (by decide) k) ?_
          refine own_st (t' := T37.setTop (mkF m 153 #[.val (.int p1), .val (.int p2), .val (.int p3), .val (.int p4), .val (.ref b1), .val (.int v0), .val (.int v1), .val (.int v2), .val (.int v3), .val (.int fr), .val (.int to), .val (.int got), .unset, .unset, .unset] [(.int (0 : Int32))])) (fun _ k => XS.iconst X37.here hx rfl (hb hby at_152) k) ?_
          exact J19 _ _ X37 e37 N37 _ (by rw [if_pos c106_32, if_pos c119_34, if_pos c132_36, if_pos c145_38])
        · refine own_st (t' := T37.setTop (mkF m 148 #[.val (.int p1), .val (.int p2), .val (.int p3), .val (.int p4), .val (.ref b1), .val (.int v0), .val (.int v1), .val (.int v2), .val (.int v3), .val (.int fr), .val (.int to), .val (.int got), .unset, .unset, .unset] [])) (fun _ k => XS.ifNo X37.here hx rfl (hb hby at_145) rfl ((if0 _ _).trans (feq c145_38).1) k) ?_
          refine own_st (t' := T37.setTop (mkF m 149 #[.val (.int p1), .val (.int p2), .val (.int p3), .val (.int p4), .val (.ref b1), .val (.int v0), .val (.int v1), .val (.int v2), .val (.int v3), .val (.int fr), .val (.int to), .val (.int got), .unset, .unset, .unset] [(.int (1 : Int32))])) (fun _ k => XS.iconst X37.here hx rfl (hb hby at_148) k) ?_
          refine own_st (t' := T37.setTop (mkF m 153 #[.val (.int p1), .val (.int p2), .val (.int p3), .val (.int p4), .val (.ref b1), .val (.int v0), .val (.int v1), .val (.int v2), .val (.int v3), .val (.int fr), .val (.int to), .val (.int got), .unset, .unset, .unset] [(.int (1 : Int32))])) (fun _ k => XS.goto X37.here hx rfl (pc0 := 149) (pc' := 153) rfl (hb hby at_149) (by decide) (by decide) k) ?_
          exact J19 _ _ X37 e37 N37 _ (by rw [if_pos c106_32, if_pos c119_34, if_pos c132_36, if_neg c145_38])
      · refine own_st (t' := T35.setTop (mkF m 148 #[.val (.int p1), .val (.int p2), .val (.int p3), .val (.int p4), .val (.ref b1), .val (.int v0), .val (.int v1), .val (.int v2), .val (.int v3), .val (.int fr), .val (.int to), .val (.int got), .unset, .unset, .unset] [])) (fun _ k => XS.ifYes X35.here hx rfl (pc0 := 132) (pc' := 148) rfl (hb hby at_132) rfl ((if0 _ _).trans (feq c132_36).2) (by decide) (by decide) k) ?_
        refine own_st (t' := T35.setTop (mkF m 149 #[.val (.int p1), .val (.int p2), .val (.int p3), .val (.int p4), .val (.ref b1), .val (.int v0), .val (.int v1), .val (.int v2), .val (.int v3), .val (.int fr), .val (.int to), .val (.int got), .unset, .unset, .unset] [(.int (1 : Int32))])) (fun _ k => XS.iconst X35.here hx rfl (hb hby at_148) k) ?_
        refine own_st (t' := T35.setTop (mkF m 153 #[.val (.int p1), .val (.int p2), .val (.int p3), .val (.int p4), .val (.ref b1), .val (.int v0), .val (.int v1), .val (.int v2), .val (.int v3), .val (.int fr), .val (.int to), .val (.int got), .unset, .unset, .unset] [(.int (1 : Int32))])) (fun _ k => XS.goto X35.here hx rfl (pc0 := 149) (pc' := 153) rfl (hb hby at_149) (by decide) (by decide) k) ?_
        exact J19 _ _ X35 e35 N35 _ (by rw [if_pos c106_32, if_pos c119_34, if_neg c132_36])
    · refine own_st (t' := T33.setTop (mkF m 148 #[.val (.int p1), .val (.int p2), .val (.int p3), .val (.int p4), .val (.ref b1), .val (.int v0), .val (.int v1), .val (.int v2), .val (.int v3), .val (.int fr), .val (.int to), .val (.int got), .unset, .unset, .unset] [])) (fun _ k => XS.ifYes X33.here hx rfl (pc0 := 119) (pc' := 148) rfl (hb hby at_119) rfl ((if0 _ _).trans (feq c119_34).2) (by decide) (by decide) k) ?_
      refine own_st (t' := T33.setTop (mkF m 149 #[.val (.int p1), .val (.int p2), .val (.int p3), .val (.int p4), .val (.ref b1), .val (.int v0), .val (.int v1), .val (.int v2), .val (.int v3), .val (.int fr), .val (.int to), .val (.int got), .unset, .unset, .unset] [(.int (1 : Int32))])) (fun _ k => XS.iconst X33.here hx rfl (hb hby at_148) k) ?_
      refine own_st (t' := T33.setTop (mkF m 153 #[.val (.int p1), .val (.int p2), .val (.int p3), .val (.int p4), .val (.ref b1), .val (.int v0), .val (.int v1), .val (.int v2), .val (.int v3), .val (.int fr), .val (.int to), .val (.int got), .unset, .unset, .unset] [(.int (1 : Int32))])) (fun _ k => XS.goto X33.here hx rfl (pc0 := 149) (pc' := 153) rfl (hb hby at_149) (by decide) (by decide) k) ?_
      exact J19 _ _ X33 e33 N33 _ (by rw [if_pos c106_32, if_neg c119_34])
  · refine own_st (t' := T31.setTop (mkF m 148 #[.val (.int p1), .val (.int p2), .val (.int p3), .val (.int p4), .val (.ref b1), .val (.int v0), .val (.int v1), .val (.int v2), .val (.int v3), .val (.int fr), .val (.int to), .val (.int got), .unset, .unset, .unset] [])) (fun _ k => XS.ifYes X31.here hx rfl (pc0 := 106) (pc' := 148) rfl (hb hby at_106) rfl ((if0 _ _).trans (feq c106_32).2) (by decide) (by decide) k) ?_
    refine own_st (t' := T31.setTop (mkF m 149 #[.val (.int p1), .val (.int p2), .val (.int p3), .val (.int p4), .val (.ref b1), .val (.int v0), .val (.int v1), .val (.int v2), .val (.int v3), .val (.int fr), .val (.int to), .val (.int got), .unset, .unset, .unset] [(.int (1 : Int32))])) (fun _ k => XS.iconst X31.here hx rfl (hb hby at_148) k) ?_
    refine own_st (t' := T31.setTop (mkF m 153 #[.val (.int p1), .val (.int p2), .val (.int p3), .val (.int p4), .val (.ref b1), .val (.int v0), .val (.int v1), .val (.int v2), .val (.int v3), .val (.int fr), .val (.int to), .val (.int got), .unset, .unset, .unset] [(.int (1 : Int32))])) (fun _ k => XS.goto X31.here hx rfl (pc0 := 149) (pc' := 153) rfl (hb hby at_149) (by decide) (by decide) k) ?_
    exact J19 _ _ X31 e31 N31 _ (by rw [if_neg c106_32])

set_option maxRecDepth 65536 in
set_option maxHeartbeats 40000000 in
theorem comes_1 {Post : Tables → Env → Array Value → State → Outcome → State → Prop} (hpost : ∀ tb e args s v u, (limb_1_1.after args s (.returned v) u = true ∧ limb_1_2.after args s (.returned v) u = true ∧ True) → FrameEnd s (.returned v) u (Jvm.fieldLocs frame_1_writes args s ++ Jvm.arrayLocs frame_1_arrays args s ++ Jvm.staticLocs frame_1_statics s) 16 128 → Post tb e args s (.returned v) u) :
    ArmFor flags0 classFile x code maxLocals ret World_1 tables_1 room_1 Calls_1 rest_1 Pre_1 Post := by
  intro l hfl _ _ p e ha hc hk s m args below hf hA hF happ hP
  obtain ⟨hcalls, hrest, hpre⟩ := hP
  obtain ⟨-, -, -, hnamed, -, -, -, hat⟩ := (Spec.applies_iff hf).mp happ
  obtain ⟨hg, hn⟩ := and_e (Cond.before_iff.mp (show (Jvm.Cond.and given_1 narrow_1).before args s = true from hpre))
  obtain ⟨hcnt, hg0⟩ := and_e hg
  obtain ⟨ga0, hg1⟩ := and_e hg0
  obtain ⟨ga1, hg2⟩ := and_e hg1
  obtain ⟨ga2, hg3⟩ := and_e hg2
  obtain ⟨w0, w1, w2, w3, rfl⟩ : ∃ w0 w1 w2 w3 : Value, args = #[w0, w1, w2, w3] := by
    have hs : args.size = 4 := by simpa [Cond.value, given_1] using hcnt
    obtain ⟨L⟩ := args
    match L, hs with
    | [w0, w1, w2, w3], _ => exact ⟨w0, w1, w2, w3, rfl⟩
  have hw := fun d (hd : d ∈ tables_1) => atoms_spec (ws := Jvm.Cond.code x code maxLocals ret :: tables_1) hat d (List.mem_cons_of_mem _ hd)
  have hfit : Fit s := fun {y c} hc i hi => by
    obtain ⟨ha, rfl⟩ := Array.getElem?_eq_some_iff.mp hc
    have q := List.all_eq_true.mp ((Array.all_eq_true_iff_forall_mem.mp hF) _ (Array.getElem_mem ha)) i (List.mem_range.mpr hi)
    simpa [Array.getElem?_eq_getElem hi] using q
  obtain ⟨i0, ei0⟩ := is_v ga0
  obtain rfl : w0 = (.int i0) := Option.some.inj ei0
  obtain ⟨i1, ei1⟩ := is_v ga1
  obtain rfl : w1 = (.int i1) := Option.some.inj ei1
  obtain ⟨i2, ei2⟩ := is_v ga2
  obtain rfl : w2 = (.int i2) := Option.some.inj ei2
  obtain ⟨i3, ei3⟩ := is_v hg3
  obtain rfl : w3 = (.int i3) := Option.some.inj ei3
  obtain ⟨n, o, h1, h2, h3, _, L, rfl, ⟨rfl, N⟩, hq⟩ := own_rm0 l s _ hw tables_1 i0 i1 i2 i3  s.heap s.heap.size (Nat.le_refl _)  p e ha hc hk s m _ below hf ((Spec.applies_iff_loose hf).mp happ).1 ⟨rfl, State.Warmed39.refl s, rfl⟩ trivial
  refine ⟨n, _, h1, h2, h3, hpost _ _ _ _ _ _ ⟨Cond.after_iff.mpr rfl, Cond.after_iff.mpr (eq_i res_at (Term.int_eval (1)) rfl), trivial⟩ ⟨hq.1, hq.2.1, (hq.2.2.sift fun y hy => Or.inr (N y hy)).mono (by decide) (by decide)⟩⟩
theorem main_1_1 : Claimed_1_1 := comes_1 fun _ _ _ _ _ _ h hF => ⟨h.1, hF⟩
theorem main_1_2 : Claimed_1_2 := comes_1 fun _ _ _ _ _ _ h hF => ⟨h.2.1, hF⟩
end Jvm.Pilot.@@N@@
namespace Jvm.Pilot.@@N@@
open Jvm Jvm.ClassFile Sem Op Lib Jvm.Free Jvm.Stand Jvm.Pilot.@@N@@.Jvm.D
/-! MADE BY PROGRAM (witnessworld.py) out of the Statement's table words and the real class files: 12 classes; the members and pool entries that the words name. The judged class is class 1, her method 1. -/
namespace start1
open Jvm.ClassFile
def u (s : String) : CpInfo := .utf8 (stringToUtf16 s)
/-- a pool by its gaps: so many unusable entries, then the entry; so many at the end -/
def gap : Nat → List CpInfo → List CpInfo
  | 0, r => r
  | n + 1, r => .unusable :: gap n r
def poolList (es : List (Nat × CpInfo)) (last : Nat) : List CpInfo := es.foldr (fun e r => gap e.1 (e.2 :: r)) (gap last [])
def pool (es : List (Nat × CpInfo)) (last : Nat) : Array CpInfo := ⟨poolList es last⟩
def fileOf (pool : Array CpInfo) (this : Nat) (attrs : Array Attribute := #[]) (ms : Array MethodInfo := #[]) (fl : Nat := 33) (sup : Nat := 0) (ifs : Array Nat := #[]) (fds : Array FieldInfo := #[]) : ClassFile where
  minorVersion := 0
  majorVersion := 65
  constantPool := pool
  accessFlags := fl
  thisClass := this
  superClass := sup
  interfaces := ifs
  fields := fds
  methods := ms
  attributes := attrs
def plain (name : String) (sup : Option ClassId) : Class where
  name := name
  kind := .ordinary
  loader := none
  accessFlags := 33
  super := sup
  interfaces := #[]
  cf := none
  fields := #[]
  methods := #[]
  instanceTypes := #[]
  staticTypes := #[]
  resolved := #[]
  callSites := []
  init := .initialized
  statics := none
  mirror := none

def pool0 : Array CpInfo := pool [(5, u "<init>"), (0, u "()V"), (1, .class_ 10), (1, u "java/lang/Object")] 113

def k0m0 : Method := { name := "<init>", desc := "()V", sig := { parameters := [], returnType := none }, accessFlags := 1, code := none }
/-- java/lang/Object -/
def k0 : Class := { plain "java/lang/Object" none with
  accessFlags := 33
  interfaces := #[]
  cf := some (fileOf pool0 8 #[] #[{ accessFlags := 1, nameIndex := 5, descriptorIndex := 6, attributes := #[] }] 33 0 #[] #[])
  fields := #[]
  methods := #[k0m0]
  instanceTypes := #[]
  staticTypes := #[]
  resolved := Array.replicate 124 none
  statics := none }

def pool1 : Array CpInfo := pool [(2, .class_ 4), (1, u "java/lang/Object"), (0, u "<init>"), (0, u "()V"), (0, .methodref 8 9), (0, .class_ 10), (0, .nameAndType 11 12), (0, u "com/example/hashbook/hashbook/store/RowPagesZerosPinLaw"), (0, u "pick"), (0, u "(III)B"), (0, .integer 2147483647), (0, .methodref 15 16), (0, .class_ 17), (0, .nameAndType 18 19), (0, u "com/example/hashbook/hashbook/store/RowPages"), (0, u "zeros"), (0, u "([BII)Z"), (0, .methodref 8 21), (0, .nameAndType 22 23), (0, u "nz"), (0, u "([BIII)Z"), (2, u "law"), (0, u "(IIII)Z")] 5

def k1m0 : Method := { name := "<init>", desc := "()V", sig := { parameters := [], returnType := none }, accessFlags := 1, code := none }
def k1c1 : Code := { maxStack := 5, maxLocals := 15, code := code, exceptionTable := #[], attributes := #[] }
def k1m1 : Method := { name := "law", desc := "(IIII)Z", sig := { parameters := [.int, .int, .int, .int], returnType := some .boolean }, accessFlags := 9, code := some k1c1 }
def k1c2 : Code := { maxStack := 3, maxLocals := 3, code := method_3_code, exceptionTable := #[], attributes := #[] }
def k1m2 : Method := { name := "pick", desc := "(III)B", sig := { parameters := [.int, .int, .int], returnType := some .byte }, accessFlags := 10, code := some k1c2 }
def k1c3 : Code := { maxStack := 2, maxLocals := 4, code := method_4_code, exceptionTable := #[], attributes := #[] }
def k1m3 : Method := { name := "nz", desc := "([BIII)Z", sig := { parameters := [(.array .byte), .int, .int, .int], returnType := some .boolean }, accessFlags := 10, code := some k1c3 }
/-- com/example/hashbook/hashbook/store/RowPagesZerosPinLaw -/
def k1 : Class := { plain "com/example/hashbook/hashbook/store/RowPagesZerosPinLaw" (some 0) with
  accessFlags := 49
  interfaces := #[]
  cf := some (fileOf pool1 8 #[] #[{ accessFlags := 1, nameIndex := 5, descriptorIndex := 6, attributes := #[] }, { accessFlags := 9, nameIndex := 26, descriptorIndex := 27, attributes := #[] }, { accessFlags := 10, nameIndex := 11, descriptorIndex := 12, attributes := #[] }, { accessFlags := 10, nameIndex := 22, descriptorIndex := 23, attributes := #[] }] 49 2 #[] #[])
  fields := #[]
  methods := #[k1m0, k1m1, k1m2, k1m3]
  instanceTypes := #[]
  staticTypes := #[]
  resolved := Array.replicate 33 none
  statics := none }

def pool2 : Array CpInfo := pool [(1, .class_ 2), (0, u "com/example/hashbook/hashbook/store/RowTree$Pages"), (0, .class_ 4), (0, u "java/lang/Object"), (14, .class_ 20), (0, u "com/example/hashbook/hashbook/store/RowTree")] 8

/-- com/example/hashbook/hashbook/store/RowTree$Pages -/
def k2 : Class := { plain "com/example/hashbook/hashbook/store/RowTree$Pages" (some 0) with
  accessFlags := 1536
  interfaces := #[]
  cf := some (fileOf pool2 1 #[.nestHost 19] #[] 1536 3 #[] #[])
  fields := #[]
  methods := #[]
  instanceTypes := #[]
  staticTypes := #[]
  resolved := Array.replicate 29 none
  statics := none }

def pool3 : Array CpInfo := pool [(1, .class_ 2), (0, u "java/lang/AutoCloseable"), (0, .class_ 4), (0, u "java/lang/Object")] 7

/-- java/lang/AutoCloseable -/
def k3 : Class := { plain "java/lang/AutoCloseable" (some 0) with
  accessFlags := 1537
  interfaces := #[]
  cf := some (fileOf pool3 1 #[] #[] 1537 3 #[] #[])
  fields := #[]
  methods := #[]
  instanceTypes := #[]
  staticTypes := #[]
  resolved := Array.replicate 12 none
  statics := none }

def pool4 : Array CpInfo := pool [(1, .class_ 2), (0, u "java/io/Closeable"), (0, .class_ 4), (0, u "java/lang/Object"), (0, .class_ 6), (0, u "java/lang/AutoCloseable")] 7

/-- java/io/Closeable -/
def k4 : Class := { plain "java/io/Closeable" (some 0) with
  accessFlags := 1537
  interfaces := #[3]
  cf := some (fileOf pool4 1 #[] #[] 1537 3 #[5] #[])
  fields := #[]
  methods := #[]
  instanceTypes := #[]
  staticTypes := #[]
  resolved := Array.replicate 14 none
  statics := none }

def pool5 : Array CpInfo := pool [(12, .class_ 14), (1, u "java/lang/Object"), (6, .class_ 23), (1, u "com/example/hashbook/hashbook/store/RowPages"), (0, u "pool"), (0, u "Lcom/example/hashbook/hashbook/store/PageList;"), (2, u "listRead"), (2, u "freed"), (0, .class_ 33), (0, u "com/example/hashbook/hashbook/store/RowPages$NodeCache"), (3, u "cache"), (0, u "Lcom/example/hashbook/hashbook/store/RowPages$NodeCache;"), (2, u "file"), (0, u "Ljava/nio/file/Path;"), (2, u "writable"), (0, u "Z"), (2, u "counted"), (2, u "scratch"), (2, u "open"), (0, u "Lcom/example/hashbook/hashbook/store/PositionalFile;"), (2, u "state"), (0, u "Lcom/example/hashbook/hashbook/store/RowPages$State;"), (2, u "place"), (0, u "I"), (1, .class_ 68), (1, u "com/example/hashbook/hashbook/store/RowPages$State"), (0, u "pages"), (3, u "J"), (40, .class_ 115), (0, u "com/example/hashbook/hashbook/store/RowPages$Opened"), (5, u "STATE_AT"), (0, u "[I"), (88, .class_ 213), (1, u "com/example/hashbook/hashbook/store/RowPages$Anchor"), (55, u "listUnread"), (0, u "Lcom/example/hashbook/hashbook/store/RowTree$Stored;"), (2, u "written"), (4, .class_ 279), (0, u "com/example/hashbook/hashbook/store/RowPages$NodePage"), (73, .class_ 354), (0, u "com/example/hashbook/hashbook/store/RowPages$OverflowPage"), (109, .class_ 465), (0, u "com/example/hashbook/hashbook/store/RowPages$Content"), (87, u "[B"), (22, .class_ 577), (0, u "com/example/hashbook/hashbook/store/RowPages$FreePage"), (38, u "NO_HASH"), (14, u "zeros"), (0, u "([BII)Z"), (184, u "MAGIC"), (0, u "Ljava/lang/String;"), (5, u "LEAST_CACHED"), (0, .class_ 826), (0, u "com/example/hashbook/hashbook/store/RowTree$Pages"), (0, .class_ 828), (0, u "java/io/Closeable"), (0, u "PAGE"), (2, u "STATE_PLACE"), (1, u "HEAD_BYTES"), (1, u "INLINE_FREE"), (1, u "COUNTED_FROM"), (1, u "TABLES_VOUCHED_FROM"), (1, u "LEAF"), (1, u "INNER"), (1, u "OVERFLOW"), (0, u "FREE"), (0, u "OVERFLOW_CHUNK"), (1, u "FREE_ENTRIES"), (1, u "PAGE_TAG"), (1, u "STATE_TAG")] 110

def k5c0 : Code := { maxStack := 2, maxLocals := 4, code := prog_153_method_40_code, exceptionTable := #[], attributes := #[] }
def k5m0 : Method := { name := "zeros", desc := "([BII)Z", sig := { parameters := [(.array .byte), .int, .int], returnType := some .boolean }, accessFlags := 8, code := some k5c0 }
/-- com/example/hashbook/hashbook/store/RowPages -/
def k5 : Class := { plain "com/example/hashbook/hashbook/store/RowPages" (some 0) with
  accessFlags := 48
  interfaces := #[2, 4]
  cf := some (fileOf pool5 21 #[.nestMembers #[32, 576, 353, 278, 464, 114, 66, 211]] #[{ accessFlags := 8, nameIndex := 631, descriptorIndex := 632, attributes := #[] }] 48 12 #[825, 827] #[{ accessFlags := 24, nameIndex := 817, descriptorIndex := 818, attributes := #[] }, { accessFlags := 26, nameIndex := 829, descriptorIndex := 64, attributes := #[] }, { accessFlags := 24, nameIndex := 121, descriptorIndex := 122, attributes := #[] }, { accessFlags := 24, nameIndex := 832, descriptorIndex := 64, attributes := #[] }, { accessFlags := 26, nameIndex := 834, descriptorIndex := 64, attributes := #[] }, { accessFlags := 24, nameIndex := 836, descriptorIndex := 64, attributes := #[] }, { accessFlags := 26, nameIndex := 838, descriptorIndex := 64, attributes := #[] }, { accessFlags := 26, nameIndex := 840, descriptorIndex := 64, attributes := #[] }, { accessFlags := 24, nameIndex := 842, descriptorIndex := 64, attributes := #[] }, { accessFlags := 24, nameIndex := 844, descriptorIndex := 64, attributes := #[] }, { accessFlags := 24, nameIndex := 846, descriptorIndex := 64, attributes := #[] }, { accessFlags := 24, nameIndex := 847, descriptorIndex := 64, attributes := #[] }, { accessFlags := 24, nameIndex := 848, descriptorIndex := 64, attributes := #[] }, { accessFlags := 24, nameIndex := 850, descriptorIndex := 64, attributes := #[] }, { accessFlags := 26, nameIndex := 852, descriptorIndex := 64, attributes := #[] }, { accessFlags := 26, nameIndex := 854, descriptorIndex := 64, attributes := #[] }, { accessFlags := 26, nameIndex := 616, descriptorIndex := 553, attributes := #[] }, { accessFlags := 26, nameIndex := 824, descriptorIndex := 64, attributes := #[] }, { accessFlags := 18, nameIndex := 41, descriptorIndex := 42, attributes := #[] }, { accessFlags := 18, nameIndex := 45, descriptorIndex := 46, attributes := #[] }, { accessFlags := 18, nameIndex := 49, descriptorIndex := 46, attributes := #[] }, { accessFlags := 18, nameIndex := 52, descriptorIndex := 46, attributes := #[] }, { accessFlags := 2, nameIndex := 55, descriptorIndex := 56, attributes := #[] }, { accessFlags := 2, nameIndex := 59, descriptorIndex := 60, attributes := #[] }, { accessFlags := 2, nameIndex := 63, descriptorIndex := 64, attributes := #[] }, { accessFlags := 66, nameIndex := 69, descriptorIndex := 73, attributes := #[] }, { accessFlags := 2, nameIndex := 24, descriptorIndex := 25, attributes := #[] }, { accessFlags := 2, nameIndex := 28, descriptorIndex := 25, attributes := #[] }, { accessFlags := 2, nameIndex := 269, descriptorIndex := 270, attributes := #[] }, { accessFlags := 18, nameIndex := 31, descriptorIndex := 25, attributes := #[] }, { accessFlags := 2, nameIndex := 273, descriptorIndex := 73, attributes := #[] }, { accessFlags := 18, nameIndex := 37, descriptorIndex := 38, attributes := #[] }])
  fields := #[{ name := "MAGIC", type := (.object "java/lang/String"), accessFlags := 24, slot := 0, constantValue := 0 }, { name := "PAGE", type := .int, accessFlags := 26, slot := 1, constantValue := 0 }, { name := "STATE_AT", type := (.array .int), accessFlags := 24, slot := 2, constantValue := 0 }, { name := "STATE_PLACE", type := .int, accessFlags := 24, slot := 3, constantValue := 0 }, { name := "HEAD_BYTES", type := .int, accessFlags := 26, slot := 4, constantValue := 0 }, { name := "INLINE_FREE", type := .int, accessFlags := 24, slot := 5, constantValue := 0 }, { name := "COUNTED_FROM", type := .int, accessFlags := 26, slot := 6, constantValue := 0 }, { name := "TABLES_VOUCHED_FROM", type := .int, accessFlags := 26, slot := 7, constantValue := 0 }, { name := "LEAF", type := .int, accessFlags := 24, slot := 8, constantValue := 0 }, { name := "INNER", type := .int, accessFlags := 24, slot := 9, constantValue := 0 }, { name := "OVERFLOW", type := .int, accessFlags := 24, slot := 10, constantValue := 0 }, { name := "FREE", type := .int, accessFlags := 24, slot := 11, constantValue := 0 }, { name := "OVERFLOW_CHUNK", type := .int, accessFlags := 24, slot := 12, constantValue := 0 }, { name := "FREE_ENTRIES", type := .int, accessFlags := 24, slot := 13, constantValue := 0 }, { name := "PAGE_TAG", type := .int, accessFlags := 26, slot := 14, constantValue := 0 }, { name := "STATE_TAG", type := .int, accessFlags := 26, slot := 15, constantValue := 0 }, { name := "NO_HASH", type := (.array .byte), accessFlags := 26, slot := 16, constantValue := 0 }, { name := "LEAST_CACHED", type := .int, accessFlags := 26, slot := 17, constantValue := 0 }, { name := "file", type := (.object "java/nio/file/Path"), accessFlags := 18, slot := 0, constantValue := 0 }, { name := "writable", type := .boolean, accessFlags := 18, slot := 1, constantValue := 0 }, { name := "counted", type := .boolean, accessFlags := 18, slot := 2, constantValue := 0 }, { name := "scratch", type := .boolean, accessFlags := 18, slot := 3, constantValue := 0 }, { name := "open", type := (.object "com/example/hashbook/hashbook/store/PositionalFile"), accessFlags := 2, slot := 4, constantValue := 0 }, { name := "state", type := (.object "com/example/hashbook/hashbook/store/RowPages$State"), accessFlags := 2, slot := 5, constantValue := 0 }, { name := "place", type := .int, accessFlags := 2, slot := 6, constantValue := 0 }, { name := "pages", type := .long, accessFlags := 66, slot := 7, constantValue := 0 }, { name := "pool", type := (.object "com/example/hashbook/hashbook/store/PageList"), accessFlags := 2, slot := 8, constantValue := 0 }, { name := "listRead", type := (.object "com/example/hashbook/hashbook/store/PageList"), accessFlags := 2, slot := 9, constantValue := 0 }, { name := "listUnread", type := (.object "com/example/hashbook/hashbook/store/RowTree$Stored"), accessFlags := 2, slot := 10, constantValue := 0 }, { name := "freed", type := (.object "com/example/hashbook/hashbook/store/PageList"), accessFlags := 18, slot := 11, constantValue := 0 }, { name := "written", type := .long, accessFlags := 2, slot := 12, constantValue := 0 }, { name := "cache", type := (.object "com/example/hashbook/hashbook/store/RowPages$NodeCache"), accessFlags := 18, slot := 13, constantValue := 0 }]
  methods := #[k5m0]
  instanceTypes := #[(.object "java/nio/file/Path"), .boolean, .boolean, .boolean, (.object "com/example/hashbook/hashbook/store/PositionalFile"), (.object "com/example/hashbook/hashbook/store/RowPages$State"), .int, .long, (.object "com/example/hashbook/hashbook/store/PageList"), (.object "com/example/hashbook/hashbook/store/PageList"), (.object "com/example/hashbook/hashbook/store/RowTree$Stored"), (.object "com/example/hashbook/hashbook/store/PageList"), .long, (.object "com/example/hashbook/hashbook/store/RowPages$NodeCache")]
  staticTypes := #[(.object "java/lang/String"), .int, (.array .int), .int, .int, .int, .int, .int, .int, .int, .int, .int, .int, .int, .int, .int, (.array .byte), .int]
  resolved := Array.replicate 965 none
  statics := none }

def pool6 : Array CpInfo := pool [(1, u "java/lang/Cloneable"), (0, .class_ 1), (0, u "java/lang/Object"), (0, .class_ 3)] 3

/-- java/lang/Cloneable -/
def k6 : Class := { plain "java/lang/Cloneable" (some 0) with
  accessFlags := 1537
  interfaces := #[]
  cf := some (fileOf pool6 2 #[] #[] 1537 4 #[] #[])
  fields := #[]
  methods := #[]
  instanceTypes := #[]
  staticTypes := #[]
  resolved := Array.replicate 8 none
  statics := none }

def pool7 : Array CpInfo := pool [(1, u "java/io/Serializable"), (0, .class_ 1), (0, u "java/lang/Object"), (0, .class_ 3)] 3

/-- java/io/Serializable -/
def k7 : Class := { plain "java/io/Serializable" (some 0) with
  accessFlags := 1537
  interfaces := #[]
  cf := some (fileOf pool7 2 #[] #[] 1537 4 #[] #[])
  fields := #[]
  methods := #[]
  instanceTypes := #[]
  staticTypes := #[]
  resolved := Array.replicate 8 none
  statics := none }

/-- the primitive byte -/
def k8 : Class := { plain "byte" none with kind := .primitive 'B', accessFlags := 0x411 }
/-- [B -/
def k9 : Class := { plain "[B" (some 0) with kind := .array 8 .byte, interfaces := #[6, 7], accessFlags := 1041 }

/-- the primitive int -/
def k10 : Class := { plain "int" none with kind := .primitive 'I', accessFlags := 0x411 }
/-- [I -/
def k11 : Class := { plain "[I" (some 0) with kind := .array 10 .int, interfaces := #[6, 7], accessFlags := 1041 }

def heap : Heap := #[]
def classes : Array Class := #[k0, k1, k2, k3, k4, k5, k6, k7, k8, k9, k10, k11]
def interned : List (Array UInt16 × Addr) := []
def slotsUsed : Nat := 0
def theMethod : MethodId := ⟨1, 1⟩
def args0 : Array Value := #[.int 5, .int 5, .int 5, .int 5]
def aboutOver (below : List Frame) : State where
  vm := { classes := classes, interned := interned.toArray }
  heap := heap
  slotsUsed := slotsUsed
  threads := #[{ frames := .invoking theMethod args0 :: below }]
def below0 : List Frame := [.native { method := ⟨0, 0⟩, args := #[] }]
def about1 : State := aboutOver below0
def p0 : Program := .bare "" "" ""
def e0 : Env := launch0.env 0 0 0
theorem w_frames : about1.frames = Frame.invoking theMethod args0 :: below0 := rfl
set_option maxRecDepth 65536 in
theorem w_args : argsFit about1.vm theMethod args0 = true := by decide +kernel
set_option maxRecDepth 65536 in
theorem w_heap : heapFits about1 = true := by decide +kernel
set_option maxRecDepth 65536 in
theorem w_runnable : about1.curStatus? = some .runnable := by decide +kernel
set_option maxRecDepth 65536 in
theorem w_alone : about1.alone = true := by decide +kernel
set_option maxRecDepth 65536 in
theorem w_named : about1.methodNamed? x = some theMethod := by decide +kernel
set_option maxRecDepth 65536 in
theorem w_hears : about1.hears theMethod below0 = true := by decide +kernel
set_option maxRecDepth 65536 in
theorem w_ripe : about1.ripe theMethod args0 below0 = true := by decide +kernel
theorem w_running : about1.status = .running := rfl
set_option maxRecDepth 65536 in
theorem w_room : about1.hasRoom e0.platform room_1 = true :=
  launch0.hasRoom_least _ room_1 (by decide +kernel) (by decide +kernel) (by decide +kernel) (by decide +kernel) (by decide +kernel) (by decide +kernel)
theorem allAtoms_all (ts : List Jvm.Cond) (a : Array Jvm.Value) (st : Jvm.State) : (allAtoms ts).before a st = ts.all (fun c => c.before a st) := by
  induction ts with
  | nil => rfl
  | cons c t ih =>
    show (Jvm.Cond.and c (allAtoms t)).before a st = _
    rw [Jvm.Cond.before_and, ih, List.all_cons]
def words1 : List Jvm.Cond := Jvm.Cond.code x code maxLocals ret :: tables_1
/-- a 'code' word, met by the world's own term for the bytes: nothing is compared byte by byte -/
theorem code_word {y : MethodName} {bytes : ByteArray} {mx : Nat} {rt : Option FieldType} {a : Array Value} {s : State} {m : MethodId} {meth : Method} {c : Code} (h1 : s.methodNamed? y = some m) (h2 : s.vm.method? m = some meth) (h3 : meth.code = some c) (h4 : c.code = bytes)
    (h5 : (c.maxLocals == mx && c.exceptionTable.isEmpty && decide (c.maxStack ≤ mostOperands) && decide (meth.sig.returnType = rt) && !meth.locks && decide (parseMethodDescriptor y.desc = some meth.sig)) = true) : (Jvm.Cond.code y bytes mx rt).before a s = true := by
  simp only [Bool.and_eq_true, beq_iff_eq, Bool.not_eq_true', decide_eq_true_eq] at h5
  obtain ⟨⟨⟨⟨⟨g1, g2⟩, g3⟩, g4⟩, g5⟩, g6⟩ := h5
  simp [Cond.before, Cond.holds, Cond.value, h1, h2, h3, h4, g1, g2, g3, g4, g5, g6]
def isCode : Jvm.Cond → Bool
  | .code _ _ _ _ => true
  | _ => false
theorem all_split {L : List Jvm.Cond} {P : Jvm.Cond → Bool} (h1 : L.all (fun c => isCode c || P c) = true) (h2 : ∀ c ∈ L.filter isCode, P c = true) : L.all P = true := by
  refine List.all_eq_true.mpr fun c hc => ?_
  have h := List.all_eq_true.mp h1 c hc
  rcases Bool.eq_false_or_eq_true (isCode c) with hi | hi
  · exact h2 c (List.mem_filter.mpr ⟨hc, hi⟩)
  · simpa [hi] using h
set_option maxRecDepth 65536 in
theorem w_c0 : (Jvm.Cond.code x code maxLocals ret).before args0 about1 = true := code_word (m := ⟨1, 1⟩) (meth := k1m1) (c := k1c1) (by decide +kernel) rfl rfl rfl (by decide +kernel)
set_option maxRecDepth 65536 in
theorem w_c1 : (Jvm.Cond.code ({ cls := "com/example/hashbook/hashbook/store/RowPagesZerosPinLaw", name := "pick", desc := "(III)B" } : Jvm.MethodName) method_3_code (3 : Nat) (Option.some Jvm.ClassFile.FieldType.byte)).before args0 about1 = true := code_word (m := ⟨1, 2⟩) (meth := k1m2) (c := k1c2) (by decide +kernel) rfl rfl rfl (by decide +kernel)
set_option maxRecDepth 65536 in
theorem w_c2 : (Jvm.Cond.code ({ cls := "com/example/hashbook/hashbook/store/RowPages", name := "zeros", desc := "([BII)Z" } : Jvm.MethodName) prog_153_method_40_code (4 : Nat) (Option.some Jvm.ClassFile.FieldType.boolean)).before args0 about1 = true := code_word (m := ⟨5, 0⟩) (meth := k5m0) (c := k5c0) (by decide +kernel) rfl rfl rfl (by decide +kernel)
set_option maxRecDepth 65536 in
theorem w_c3 : (Jvm.Cond.code ({ cls := "com/example/hashbook/hashbook/store/RowPagesZerosPinLaw", name := "nz", desc := "([BIII)Z" } : Jvm.MethodName) method_4_code (4 : Nat) (Option.some Jvm.ClassFile.FieldType.boolean)).before args0 about1 = true := code_word (m := ⟨1, 3⟩) (meth := k1m3) (c := k1c3) (by decide +kernel) rfl rfl rfl (by decide +kernel)
def codes1 : List Jvm.Cond := [Jvm.Cond.code x code maxLocals ret, Jvm.Cond.code ({ cls := "com/example/hashbook/hashbook/store/RowPagesZerosPinLaw", name := "pick", desc := "(III)B" } : Jvm.MethodName) method_3_code (3 : Nat) (Option.some Jvm.ClassFile.FieldType.byte), Jvm.Cond.code ({ cls := "com/example/hashbook/hashbook/store/RowPages", name := "zeros", desc := "([BII)Z" } : Jvm.MethodName) prog_153_method_40_code (4 : Nat) (Option.some Jvm.ClassFile.FieldType.boolean), Jvm.Cond.code ({ cls := "com/example/hashbook/hashbook/store/RowPagesZerosPinLaw", name := "nz", desc := "([BIII)Z" } : Jvm.MethodName) method_4_code (4 : Nat) (Option.some Jvm.ClassFile.FieldType.boolean)]
set_option maxRecDepth 65536 in
theorem codes_eq : words1.filter isCode = codes1 := rfl
theorem w_codes : ∀ c ∈ words1.filter isCode, c.before args0 about1 = true := by
  rw [codes_eq]
  intro c hc
  simp only [codes1, List.mem_cons, List.not_mem_nil, or_false] at hc
  rcases hc with rfl | rfl | rfl | rfl
  · exact w_c0
  · exact w_c1
  · exact w_c2
  · exact w_c3
set_option maxRecDepth 65536 in
theorem w_t1 : words1.all (fun c => isCode c || c.before args0 about1) = true := by decide +kernel
theorem w_tables : (allAtoms (Jvm.Cond.code x code maxLocals ret :: tables_1)).before args0 about1 = true := by
  rw [allAtoms_all]
  show words1.all (fun c => c.before args0 about1) = true
  refine all_split ?_ w_codes
  rw [w_t1]
set_option maxRecDepth 65536 in
theorem w_case : (Jvm.Cond.and given_1 narrow_1).before args0 about1 = true := by decide +kernel
theorem w_applies : (headSpec (Jvm.Cond.code x code maxLocals ret :: tables_1) room_1).applies x e0.platform about1 = true :=
  (Spec.applies_iff w_frames).mpr ⟨w_running, w_runnable, w_alone, w_named, w_hears, w_ripe, w_room, w_tables⟩
theorem atStart : AtStart classFile x code maxLocals ret World_1 tables_1 room_1 Calls_1 rest_1 Pre_1 launch0 p0 e0 about1 theMethod args0 below0 :=
  ⟨lists_1, trivial, launch0.admits_env _ _ _, launch0.least_env, fairChoices_fair.cas, fairChoices_fair.clock, w_frames, w_args, w_heap, w_applies, trivial, trivial, w_case⟩
end start1
theorem witness_1 : WitnessClaimed_1 := ⟨start1.p0, start1.e0, start1.about1, start1.theMethod, start1.args0, start1.below0, start1.atStart⟩
end Jvm.Pilot.@@N@@
